/-
  Plain: each initializer is there once, behind those of all variables on which it depends.
-/
import Derived.Test.YtelfaljidgfphaaGreatM2
namespace Go.Proofs.YtelfaljidgfphaaGreat

theorem filter_split {α : Type} (P : α → Bool) : ∀ (L : List α) (t : Nat) (v : α), (L.filter P)[t]? = some v → ∃ L1 L2, L = L1 ++ v :: L2 ∧ L1.filter P = (L.filter P).take t
  | [], t, v, h => by simp at h
  | x :: L, t, v, h => by
    by_cases hx : P x = true
    · rw [List.filter_cons, if_pos hx] at h
      cases t with
      | zero =>
        simp at h
        subst h
        exact ⟨[], L, rfl, by simp⟩
      | succ t =>
        simp only [List.getElem?_cons_succ] at h
        obtain ⟨L1, L2, h1, h2⟩ := filter_split P L t v h
        refine ⟨x :: L1, L2, by rw [h1]; rfl, ?_⟩
        rw [List.filter_cons, if_pos hx, List.filter_cons, if_pos hx, List.take_succ_cons, h2]
    · rw [List.filter_cons, if_neg hx] at h
      obtain ⟨L1, L2, h1, h2⟩ := filter_split P L t v h
      refine ⟨x :: L1, L2, by rw [h1]; rfl, ?_⟩
      rw [List.filter_cons, if_neg hx, List.filter_cons, if_neg hx, h2]

theorem topo_needs {p : List It} {k r : Nat} : (needsAll p k)[r]? = some true ↔ r < cnt p ∧ Rch p fNoConst k r ∧ (it p (own p r)).var = true := by
  unfold needsAll
  by_cases h : r < cnt p
  · simp [h]
  · simp [h]

section
variable {p : List It}
/-- What is needed, by way of other variables. -/
theorem topo_all (hK : KOk p) (hR : ROk p) {k : Nat} (hk : k < p.length) {v : Nat} (hvk : own p v = k) {a : Nat} (h : Rch p fNoConst k a) : Rch p fFunc k a ∨ ∃ t, Tc (Nn p) v t ∧ t < cnt p ∧ Rch p fFunc (own p t) a := by
  induction h with
  | ref h1 => exact .inl (.ref h1)
  | @step a s h1 h2 h3 ih =>
    have ha := h1.lt hR hk
    by_cases h4 : (it p (own p a)).kind = 3
    · have hf : fFunc (it p (own p a)) = true := by unfold fFunc; simp [h4]
      rcases ih with ih | ⟨t, ht, ht1, ht2⟩
      · exact .inl (.step ih hf h3)
      · exact .inr ⟨t, ht, ht1, .step ht2 hf h3⟩
    · have hav : (it p (own p a)).var = true := by
        obtain ⟨k1, k2, _⟩ := hK _ (it_mem (own_spec ha).1)
        unfold fNoConst at h2
        unfold It.var
        simp only [Bool.or_eq_true, beq_iff_eq, bne_iff_ne, ne_eq] at h2 ⊢
        omega
      rcases ih with ih | ⟨t, ht, ht1, ht2⟩
      · exact .inr ⟨a, .one ⟨by rw [hvk]; exact ih, ha, hav⟩, ha, .ref h3⟩
      · exact .inr ⟨a, .more ht ⟨ht2, ha, hav⟩, ha, .ref h3⟩

/-- The first variable of a declaration is the first one that comes. -/
theorem topo_first (hK : KOk p) {L : List Nat} (h : Gdy (Vn p) (Nn p) L) : ∀ s ∈ L, start p (own p s) ∈ L := by
  induction h with
  | nil => simp
  | @snoc L v h1 h2 h3 ih =>
    intro s hs
    rcases List.mem_append.1 hs with h | h
    · exact List.mem_append.2 (.inl (ih s h))
    · simp at h
      subst h
      obtain ⟨⟨hv1, hv2⟩, hv3, hv4⟩ := h2
      obtain ⟨h5, h6, h7⟩ := own_spec hv1
      by_cases e : start p (own p s) = s
      · exact List.mem_append.2 (.inr (by simp [e]))
      · have hn := (n_pos hK (it_mem h5)).1
        have ho := own_start (p := p) (k := own p s) (j := 0) h5 (by omega)
        rw [Nat.add_zero] at ho
        apply Classical.byContradiction
        intro hc
        refine h3 (start p (own p s)) (by omega) ⟨⟨by omega, by rw [ho]; exact hv2⟩, fun hm => hc (List.mem_append.2 (.inl hm)), fun t ht => hv4 t ?_⟩
        obtain ⟨b1, b2, b3⟩ := ht
        rw [ho] at b1
        exact ⟨b1, b2, b3⟩

theorem topo_law (hO : Ok p) {a : List (List Nat)} (ha : Em p a) : ∃ ks : List Nat, a = ks.map (objs p) ∧ ks.Nodup ∧ (∀ k, k ∈ ks ↔ k < p.length ∧ (it p k).ini = true) ∧
    ∀ t k : Nat, ks[t]? = some k → ∀ n : Nat, (needsAll p k)[n]? = some true → (it p (own p n)).kind = 2 ∨ own p n ∈ ks.take t := by
  obtain ⟨L, h1, h2, rfl⟩ := ha
  have hK := hO.kinds
  have hP : ∀ r ∈ L.filter (fun r => (it p (own p r)).ini && (r == start p (own p r))), r < cnt p ∧ (it p (own p r)).ini = true ∧ r = start p (own p r) := fun r hr => by
    obtain ⟨h3, h4⟩ := List.mem_filter.1 hr
    simp at h4
    exact ⟨(h1.mem r h3).1, h4⟩
  have hst : ∀ k, k < p.length → own p (start p k) = k ∧ start p k < cnt p := fun k hk => by
    have hn := (n_pos hK (it_mem hk)).1
    have ho := own_start (p := p) (k := k) (j := 0) hk (by omega)
    have hl := start_lt (p := p) (k := k) (j := 0) hk (by omega)
    rw [Nat.add_zero] at ho hl
    exact ⟨ho, hl⟩
  have hvi : ∀ x : It, x.ini = true → x.var = true := fun x hx => by unfold It.ini at hx; unfold It.var; simp at hx ⊢; omega
  refine ⟨(L.filter fun r => (it p (own p r)).ini && (r == start p (own p r))).map (own p), ?_, ?_, fun k => ?_, fun t k ht n hn => ?_⟩
  · unfold emit
    rw [List.map_map]
    rfl
  · unfold List.Nodup
    rw [List.pairwise_map]
    refine (h1.nodup.filter _).imp_of_mem fun {a b} ha hb hne e => ?_
    have h3 := (hP a ha).2.2
    have h4 := (hP b hb).2.2
    rw [e] at h3
    exact hne (h3.trans h4.symm)
  · rw [List.mem_map]
    constructor
    · rintro ⟨r, hr, rfl⟩
      obtain ⟨h3, h4, _⟩ := hP r hr
      exact ⟨(own_spec h3).1, h4⟩
    · rintro ⟨h3, h4⟩
      obtain ⟨h5, h6⟩ := hst k h3
      refine ⟨start p k, List.mem_filter.2 ⟨h2 _ ⟨h6, by rw [h5]; exact hvi _ h4⟩, by simp [h5, h4]⟩, h5⟩
  · rw [List.getElem?_map] at ht
    obtain ⟨v, hv, hvk⟩ := Option.map_eq_some_iff.1 ht
    obtain ⟨L1, L2, e1, e2⟩ := filter_split _ L t v hv
    have hG := h1.take (L1.length + 1)
    have e3 : L.take (L1.length + 1) = L1 ++ [v] := by
      rw [e1, List.take_append, List.take_of_length_le (by omega)]
      congr 1
      rw [show L1.length + 1 - L1.length = 1 by omega]
      rfl
    rw [e3] at hG
    generalize hg : L1 ++ [v] = c at hG
    cases hG with
    | nil => simp at hg
    | @snoc a' k' h4 h5 h6 =>
      obtain ⟨rfl, hvv⟩ := List.append_inj' hg rfl
      simp at hvv
      subst hvv
      obtain ⟨hn1, hn2, hn3⟩ := topo_needs.1 hn
      have hkl : k < p.length := by rw [← hvk]; exact (own_spec (h5.1).1).1
      have hin : n ∈ L1 := by
        rcases topo_all hK hO.refs hkl hvk hn2 with h7 | ⟨s, h7, h8, h9⟩
        · exact h5.2.2 n ⟨by rw [hvk]; exact h7, hn1, hn3⟩
        · exact h4.tc (.more h7 ⟨h9, hn1, hn3⟩) h5.2.2
      by_cases hp2 : (it p (own p n)).kind = 2
      · exact .inl hp2
      · right
        have hini : (it p (own p n)).ini = true := by
          unfold It.var at hn3
          unfold It.ini
          simp at hn3 ⊢
          omega
        have h7 := topo_first hK h4 n hin
        obtain ⟨h8, _⟩ := hst _ (own_spec hn1).1
        rw [← List.map_take, ← e2]
        exact List.mem_map.2 ⟨_, List.mem_filter.2 ⟨h7, by simp [h8, hini]⟩, h8⟩

theorem topo_length (hO : Ok p) {a : List (List Nat)} (ha : Em p a) : a.length = (inits p).length := by
  obtain ⟨ks, rfl, h1, h2, -⟩ := topo_law hO ha
  unfold inits initsTo
  rw [List.length_map, List.length_map]
  have h3 : ((List.range p.length).filter fun k => (it p k).ini).Nodup := List.nodup_range.filter _
  refine Nat.le_antisymm (nodup_sub_length h1 fun x hx => ?_) (nodup_sub_length h3 fun x hx => ?_)
  · obtain ⟨b1, b2⟩ := (h2 x).1 hx
    exact List.mem_filter.2 ⟨List.mem_range.2 b1, b2⟩
  · obtain ⟨b1, b2⟩ := List.mem_filter.1 hx
    exact (h2 x).2 ⟨List.mem_range.1 b1, b2⟩
end
end Go.Proofs.YtelfaljidgfphaaGreat
