/-
  Plain: one declaration more, behind all others.
-/
import Derived.Test.YtelfaljidgfphaaGreatL1
namespace Go.Proofs.YtelfaljidgfphaaGreat

section
variable {p : List It} {x : It}
theorem app_owners (p : List It) (x : It) : owners (p ++ [x]) = owners p ++ List.replicate x.n p.length := by
  unfold owners
  rw [ownersFrom_snoc, Nat.zero_add]
theorem app_cnt (p : List It) (x : It) : cnt (p ++ [x]) = cnt p + x.n := by
  unfold cnt
  rw [app_owners, List.length_append, List.length_replicate]
theorem app_own_lt {r : Nat} (h : r < cnt p) : own (p ++ [x]) r = own p r := by
  unfold own
  rw [app_owners, List.getD_eq_getElem?_getD, List.getD_eq_getElem?_getD, List.getElem?_append_left h]
theorem app_own_ge {r : Nat} (h : cnt p ≤ r) (h2 : r < cnt (p ++ [x])) : own (p ++ [x]) r = p.length := by
  rw [app_cnt] at h2
  unfold cnt at h h2
  unfold own
  rw [app_owners, List.getD_eq_getElem?_getD, List.getElem?_append_right h, List.getElem?_replicate, if_pos (by omega)]
  rfl
theorem app_it_lt {k : Nat} (h : k < p.length) : it (p ++ [x]) k = it p k := by
  unfold it
  rw [List.getD_eq_getElem?_getD, List.getD_eq_getElem?_getD, List.getElem?_append_left h]
theorem app_it_last : it (p ++ [x]) p.length = x := by
  apply it_of
  simp
theorem app_start {k : Nat} (h : k ≤ p.length) : start (p ++ [x]) k = start p k := by
  unfold start
  rw [List.take_append_of_le_length h]
theorem app_objs {k : Nat} (h : k < p.length) : objs (p ++ [x]) k = objs p k := by
  unfold objs
  rw [app_start (by omega), app_it_lt h]
theorem app_start_last : start (p ++ [x]) p.length = cnt p := by rw [app_start (Nat.le_refl _), start_length]

/-- The declarations ahead of it lead where they led. -/
theorem app_rch (hR : ROk p) {f : It → Bool} {k r : Nat} (hk : k < p.length) : Rch (p ++ [x]) f k r ↔ Rch p f k r := by
  constructor
  · intro h
    induction h with
    | ref h1 => rw [app_it_lt hk] at h1; exact .ref h1
    | @step a s _ h2 h3 ih =>
      have ha := ih.lt hR hk
      rw [app_own_lt ha, app_it_lt (own_spec ha).1] at h2 h3
      exact .step ih h2 h3
  · intro h
    induction h with
    | ref h1 => exact .ref (by rw [app_it_lt hk]; exact h1)
    | @step a s h1 h2 h3 ih =>
      have ha := h1.lt hR hk
      exact .step ih (by rw [app_own_lt ha, app_it_lt (own_spec ha).1]; exact h2) (by rw [app_own_lt ha, app_it_lt (own_spec ha).1]; exact h3)

theorem app_vn_lt {r : Nat} (h : r < cnt p) : Vn (p ++ [x]) r ↔ Vn p r := by
  unfold Vn
  rw [app_own_lt h, app_it_lt (own_spec h).1, app_cnt]
  exact ⟨fun h' => ⟨h, h'.2⟩, fun h' => ⟨by omega, h'.2⟩⟩
theorem app_nn (hR : ROk p) {v s : Nat} (hv : v < cnt p) : Nn (p ++ [x]) v s ↔ Nn p v s := by
  have hk := (own_spec hv).1
  unfold Nn
  rw [app_own_lt hv, app_rch hR hk]
  constructor
  · rintro ⟨h1, h2, h3⟩
    have h4 := h1.lt hR hk
    rw [app_own_lt h4, app_it_lt (own_spec h4).1] at h3
    exact ⟨h1, h4, h3⟩
  · rintro ⟨h1, h2, h3⟩
    exact ⟨h1, by rw [app_cnt]; omega, by rw [app_own_lt h2, app_it_lt (own_spec h2).1]; exact h3⟩
theorem app_emit {L : List Nat} (h : ∀ r ∈ L, r < cnt p) : emit (p ++ [x]) L = emit p L := by
  unfold emit
  have e : L.filter (fun r => (it (p ++ [x]) (own (p ++ [x]) r)).ini && (r == start (p ++ [x]) (own (p ++ [x]) r))) = L.filter (fun r => (it p (own p r)).ini && (r == start p (own p r))) := by
    refine List.filter_congr fun r hr => ?_
    have h1 := h r hr
    have h2 := (own_spec h1).1
    rw [app_own_lt h1, app_it_lt h2, app_start (by omega)]
  rw [e]
  refine List.map_congr_left fun r hr => ?_
  have h1 := h r (List.mem_filter.1 hr).1
  rw [app_own_lt h1, app_objs (own_spec h1).1]

/-- One that is none of variables: the order is the same one. -/
theorem app_em (hR : ROk p) (hx : x.var = false) {a : List (List Nat)} (ha : Em p a) : Em (p ++ [x]) a := by
  obtain ⟨L, h1, h2, rfl⟩ := ha
  have hV : ∀ v, Vn p v ↔ Vn (p ++ [x]) v := fun v => by
    by_cases h : v < cnt p
    · exact (app_vn_lt h).symm
    · constructor
      · intro h'; exact absurd h'.1 h
      · intro h'
        have h3 := app_own_ge (p := p) (x := x) (r := v) (by omega) h'.1
        have := h'.2
        rw [h3, app_it_last, hx] at this
        cases this
  exact ⟨L, h1.congr hV (fun v s hv => (app_nn hR hv.1).symm), fun v hv => h2 v ((hV v).2 hv), (app_emit fun r hr => (h1.mem r hr).1).symm⟩

open Classical in
/-- The order of the others: what does not begin with its first object. -/
theorem app_last (hR : ROk p) (hK : KOk (p ++ [x])) {a b : List (List Nat)} (ha : Em p a) (hb : Em (p ++ [x]) b) : b.filter (fun g => g.headD 0 != cnt p) = a ∧ ∀ g ∈ b, g ≠ [] := by
  obtain ⟨L, h1, h2, rfl⟩ := hb
  have hcl : ∀ v s, Vn p v → Nn (p ++ [x]) v s → Vn p s := fun v s hv hs => by
    have := (app_nn hR hv.1).1 hs
    exact ⟨this.2.1, this.2.2⟩
  have hG := (h1.part (W := Vn p) (fun v hv => (app_vn_lt hv.1).2 hv) hcl).congr (fun _ => Iff.rfl) (fun v s hv => app_nn hR hv.1)
  have hF : FullG (Vn p) (L.filter fun v => decide (Vn p v)) := fun v hv => List.mem_filter.2 ⟨h2 v ((app_vn_lt hv.1).2 hv), by simpa using hv⟩
  have e := ha.unique ⟨_, hG, hF, rfl⟩
  have hhead : ∀ r, Vn (p ++ [x]) r → (objs (p ++ [x]) (own (p ++ [x]) r)).headD 0 = start (p ++ [x]) (own (p ++ [x]) r) ∧ objs (p ++ [x]) (own (p ++ [x]) r) ≠ [] := fun r hr => by
    have hn := (n_pos hK (it_mem (own_spec hr.1).1)).1
    unfold objs
    obtain ⟨m, hm⟩ : ∃ m, (it (p ++ [x]) (own (p ++ [x]) r)).n = m + 1 := ⟨_, (Nat.sub_add_cancel hn).symm⟩
    rw [hm, List.range'_succ]
    simp
  refine ⟨?_, fun g hg => ?_⟩
  · have e2 := app_emit (p := p) (x := x) (L := L.filter fun v => decide (Vn p v)) (fun r hr => by have := (List.mem_filter.1 hr).2; simp at this; exact this.1)
    rw [e, ← e2]
    unfold emit
    rw [List.filter_map, List.filter_filter, List.filter_filter]
    congr 1
    refine List.filter_congr fun r hr => ?_
    have hv := h1.mem r hr
    simp only [Function.comp]
    rw [(hhead r hv).1]
    by_cases hrp : r < cnt p
    · have h3 := own_spec hrp
      have h4 : Vn p r := (app_vn_lt hrp).1 hv
      rw [app_own_lt hrp, app_start (by omega)]
      have : start p (own p r) ≠ cnt p := by omega
      simp [this, h4]
    · have h3 := app_own_ge (p := p) (x := x) (r := r) (by omega) hv.1
      rw [h3, app_start_last]
      have : ¬ Vn p r := fun h => hrp h.1
      simp [this]
  · unfold emit at hg
    obtain ⟨r, hr, rfl⟩ := List.mem_map.1 hg
    exact (hhead r (h1.mem r (List.mem_filter.1 hr).1)).2
end
end Go.Proofs.YtelfaljidgfphaaGreat
