/-
  Valid declarations have an order of all variables; the steps of the declarations are that order where others refer to the last variable of a group alone.
-/
import Derived.Test.YtelfaljidgfphaaGreatG1
namespace Go.Proofs.YtelfaljidgfphaaGreat

section
variable {V : Nat → Prop} {N : Nat → Nat → Prop}

theorem Gdy.take {L : List Nat} (h : Gdy V N L) : ∀ m, Gdy V N (L.take m) := by
  induction h with
  | nil => intro m; simp; exact .nil
  | @snoc a' k h1 h2 h3 ih =>
    intro m
    by_cases hm : m ≤ a'.length
    · rw [List.take_append_of_le_length hm]; exact ih m
    · rw [List.take_of_length_le (by simp; omega)]; exact .snoc h1 h2 h3

/-- Each greedy order is the beginning of the whole one. -/
theorem Gdy.prefix {L M : List Nat} (hL : Gdy V N L) (fL : FullG V L) (hM : Gdy V N M) : M = L.take M.length := by
  have h1 := nodup_sub_length hM.nodup (fun x hx => fL x (hM.mem x hx))
  exact Gdy.same M.length hM (hL.take _) rfl (by rw [List.length_take]; omega)

/-- What is next. -/
theorem Gdy.next {L M : List Nat} (hL : Gdy V N L) (fL : FullG V L) (hM : Gdy V N M) (hn : ¬ FullG V M) : ∃ v, CandG V N M v ∧ ∀ u, u < v → ¬ CandG V N M u := by
  have h1 := hL.prefix fL hM
  by_cases hlen : L.length ≤ M.length
  · rw [List.take_of_length_le hlen] at h1
    exact absurd (h1 ▸ fL) hn
  · have h2 := hL.take (M.length + 1)
    rw [List.take_succ_eq_append_getElem (by omega), ← h1] at h2
    generalize hg : M ++ [L[M.length]] = c at h2
    cases h2 with
    | nil => simp at hg
    | @snoc a' k h4 h5 h6 =>
      have : M = a' := (List.append_inj' hg rfl).1
      subst this
      exact ⟨k, h5, h6⟩

theorem exists_least {P : Nat → Prop} (h : ∃ v, P v) : ∃ v, P v ∧ ∀ u, u < v → ¬ P u := by
  obtain ⟨v, hv⟩ := h
  induction v using Nat.strongRecOn with
  | ind v ih =>
    by_cases h : ∃ u, u < v ∧ P u
    · obtain ⟨u, h1, h2⟩ := h; exact ih u h1 h2
    · exact ⟨v, hv, fun u hu hp => h ⟨u, hu, hp⟩⟩

/-- Where the needs have ranks there is a whole order. -/
theorem Gdy.of_rank {n : Nat} (hV : ∀ v, V v → v < n) (rk : Nat → Nat) (hr : ∀ v s, V v → N v s → V s ∧ rk s < rk v) : ∃ L, Gdy V N L ∧ FullG V L := by
  have key : ∀ (m : Nat) (L : List Nat), Gdy V N L → L.length + m = n → ∃ L, Gdy V N L ∧ FullG V L := by
    intro m
    induction m with
    | zero =>
      intro L hL hl
      refine ⟨L, hL, fun v hv => ?_⟩
      by_cases hm : v ∈ L
      · exact hm
      · have := nodup_length_le (n := n) (l := v :: L) (List.nodup_cons.2 ⟨hm, hL.nodup⟩) (fun x hx => by
          rcases List.mem_cons.1 hx with rfl | hx
          · exact hV _ hv
          · exact hV _ (hL.mem x hx))
        simp at this
        omega
    | succ m ih =>
      intro L hL hl
      by_cases hf : FullG V L
      · exact ⟨L, hL, hf⟩
      · have hex : ∃ r v, V v ∧ v ∉ L ∧ rk v = r := by
          apply Classical.byContradiction
          intro hc
          exact hf fun v hv => Classical.byContradiction fun hm => hc ⟨_, v, hv, hm, rfl⟩
        obtain ⟨r, ⟨v, hv, hm, hrv⟩, hleast⟩ := exists_least hex
        have hc : CandG V N L v := ⟨hv, hm, fun s hs => Classical.byContradiction fun hsm => by
          obtain ⟨h1, h2⟩ := hr v s hv hs
          exact hleast (rk s) (by omega) ⟨s, h1, hsm, rfl⟩⟩
        obtain ⟨u, hu, hmin⟩ := exists_least ⟨v, hc⟩
        exact ih (L ++ [u]) (.snoc hL hu hmin) (by simp; omega)
  exact key n [] .nil (by simp)
end

/-- There is an order of all variables. -/
def Acy (p : List It) : Prop := ∃ L, Gdy (Vn p) (Nn p) L ∧ FullG (Vn p) L

theorem needs_iff {p : List It} {k r : Nat} : (needs p k)[r]? = some true ↔ r < cnt p ∧ Rch p fFunc k r ∧ (it p (own p r)).var = true := by
  unfold needs
  by_cases h : r < cnt p
  · simp [h]
  · simp [h]

theorem StepsTo.closed {p : List It} {ord : List Nat} (h : StepsTo p ord) : ∀ k ∈ ord, ∀ r, (needs p k)[r]? = some true → own p r ∈ ord ∧ ord.idxOf (own p r) < ord.idxOf k := by
  induction h with
  | nil => simp
  | @snoc ord k h1 h2 h3 ih =>
    intro j hj r hr
    rw [List.idxOf_append, List.idxOf_append]
    by_cases hjo : j ∈ ord
    · obtain ⟨h4, h5⟩ := ih j hjo r hr
      rw [if_pos h4, if_pos hjo]
      exact ⟨List.mem_append.2 (.inl h4), h5⟩
    · have : j = k := by
        rcases List.mem_append.1 hj with h | h
        · exact absurd h hjo
        · simpa using h
      subst this
      have h4 := h2.2.2.2 r hr
      rw [if_pos h4, if_neg hjo]
      exact ⟨List.mem_append.2 (.inl h4), by have := List.idxOf_lt_length_of_mem h4; omega⟩

theorem Valid.acy {p : List It} (h : Valid p) : Acy p := by
  obtain ⟨_, ord, h1, h2⟩ := h
  refine Gdy.of_rank (n := cnt p) (fun v hv => hv.1) (fun v => ord.idxOf (own p v)) ?_
  rintro v s ⟨hv, hvv⟩ ⟨hs1, hs2, hs3⟩
  exact ⟨⟨hs2, hs3⟩, (h1.closed (own p v) (h2 _ (own_spec hv).1 hvv) s (needs_iff.2 ⟨hs2, hs1, hs3⟩)).2⟩

/-! ### Others refer to the last variable of a group alone -/
/-- What is needed of another group is its last variable. -/
theorem Rch.last {p : List It} (hr : ROk p) (hl : LoneP p) {k : Nat} (hk : k < p.length) {r : Nat} (h : Rch p fFunc k r) (hne : own p r ≠ k) (hv : (it p (own p r)).var = true) : (it p (own p r)).kind = 1 → r + 1 < cnt p → own p (r + 1) ≠ own p r := by
  cases h with
  | ref h1 => exact hl k hk r h1 hne
  | @step x _ h1 h2 h3 =>
    have hx := h1.lt hr hk
    refine hl (own p x) (own_spec hx).1 r h3 fun e => ?_
    rw [e] at hv
    simp only [fFunc, beq_iff_eq] at h2
    simp [It.var, h2] at hv

theorem mem_flat {p : List It} {ord : List Nat} (ho : ∀ k ∈ ord, k < p.length) {r : Nat} : r ∈ ord.flatMap (objs p) ↔ r < cnt p ∧ own p r ∈ ord := by
  rw [List.mem_flatMap]
  constructor
  · rintro ⟨k, h1, h2⟩
    obtain ⟨h3, rfl⟩ := (mem_objs (ho k h1)).1 h2
    exact ⟨h3, h1⟩
  · rintro ⟨h1, h2⟩
    exact ⟨_, h2, (mem_objs (ho _ h2)).2 ⟨h1, rfl⟩⟩

theorem own_mono {p : List It} {r s : Nat} (hs : s < cnt p) (h : r ≤ s) : own p r ≤ own p s := by
  obtain ⟨h1, h2, h3⟩ := own_spec (p := p) (r := r) (by omega)
  obtain ⟨h4, h5, h6⟩ := own_spec hs
  apply Classical.byContradiction
  intro hc
  have h7 := start_mono (p := p) (j := own p s + 1) (k := own p r) (by omega) (by omega)
  have h8 := start_succ (it_get h4)
  omega

theorem StepsTo.gdy {p : List It} (hK : KOk p) (hr : ROk p) (hl : LoneP p) {ord : List Nat} (h : StepsTo p ord) : Gdy (Vn p) (Nn p) (ord.flatMap (objs p)) := by
  induction h with
  | nil => exact .nil
  | @snoc ord k h1 h2 h3 ih =>
    have hlt := fun x hx => (h1.lt x hx).1
    obtain ⟨hk, hkv, hko, hrdy⟩ := h2
    have hn := (n_pos hK (it_mem hk)).1
    have key : ∀ j, j ≤ (it p k).n → Gdy (Vn p) (Nn p) (ord.flatMap (objs p) ++ List.range' (start p k) j) := by
      intro j
      induction j with
      | zero => intro _; simpa using ih
      | succ j ihj =>
        intro hj
        have hown := own_start (p := p) hk (show j < (it p k).n by omega)
        have hltc := start_lt (p := p) hk (show j < (it p k).n by omega)
        rw [List.range'_concat, ← List.append_assoc, Nat.one_mul]
        refine .snoc (ihj (by omega)) ⟨⟨hltc, by rw [hown]; exact hkv⟩, fun hm => ?_, fun s hs => ?_⟩ fun u hu hc => ?_
        · rcases List.mem_append.1 hm with h | h
          · exact hko (hown ▸ ((mem_flat hlt).1 h).2)
          · have := List.mem_range'_1.1 h; omega
        · obtain ⟨h4, h5, h6⟩ := hs
          rw [hown] at h4
          exact List.mem_append.2 (.inl ((mem_flat hlt).2 ⟨h5, hrdy s (needs_iff.2 ⟨h5, h4, h6⟩)⟩))
        · obtain ⟨⟨hu1, hu2⟩, hu3, hu4⟩ := hc
          have hu5 : u < start p k := by
            apply Classical.byContradiction
            intro hc
            exact hu3 (List.mem_append.2 (.inr (List.mem_range'_1.2 ⟨by omega, hu⟩)))
          have hne : own p u ≠ k := fun e => by have := (own_spec hu1).2.1; rw [e] at this; omega
          have hlt2 : own p u < k := by have := own_mono (p := p) (r := u) (s := start p k + j) hltc (by omega); rw [hown] at this; omega
          have hmem : ∀ s, Nn p u s → own p s ∈ ord := by
            intro s hs
            rcases List.mem_append.1 (hu4 s hs) with h | h
            · exact ((mem_flat hlt).1 h).2
            · exfalso
              obtain ⟨h7, h8⟩ := List.mem_range'_1.1 h
              have e : s = start p k + (s - start p k) := by omega
              have h9 := own_start (p := p) hk (show s - start p k < (it p k).n by omega)
              rw [← e] at h9
              have h10 := own_start (p := p) hk (show s - start p k + 1 < (it p k).n by omega)
              have h11 := start_lt (p := p) hk (show s - start p k + 1 < (it p k).n by omega)
              rw [show start p k + (s - start p k + 1) = s + 1 by omega] at h10 h11
              have hk1 : (it p k).kind = 1 := by
                apply Classical.byContradiction
                intro hc
                have : (it p k).n = 1 := by simp [It.n, hc]
                omega
              have := Rch.last hr hl (own_spec hu1).1 hs.1 (by rw [h9]; exact fun e => hne e.symm) hs.2.2 (by rw [h9]; exact hk1) h11
              rw [h9, h10] at this
              exact this rfl
          refine h3 (own p u) hlt2 ⟨(own_spec hu1).1, hu2, fun ho => ?_, fun r hr' => ?_⟩
          · exact hu3 (List.mem_append.2 (.inl ((mem_flat hlt).2 ⟨hu1, ho⟩)))
          · obtain ⟨h4, h5, h6⟩ := needs_iff.1 hr'
            exact hmem r ⟨h5, h4, h6⟩
    have := key _ (Nat.le_refl _)
    rw [List.flatMap_append]
    simpa [objs] using this

theorem Full.gdy {p : List It} {ord : List Nat} (ho : ∀ k ∈ ord, k < p.length) (h : Full p ord) : FullG (Vn p) (ord.flatMap (objs p)) := fun _ hv => (mem_flat ho).2 ⟨hv.1, h _ (own_spec hv.1).1 hv.2⟩

theorem emit_flat {p : List It} (hK : KOk p) {ord : List Nat} (ho : ∀ k ∈ ord, k < p.length) : emit p (ord.flatMap (objs p)) = (ord.filter fun k => (it p k).ini).map (objs p) := by
  unfold emit
  induction ord with
  | nil => rfl
  | cons k ord ih =>
    have hk := ho k (by simp)
    have hn := (n_pos hK (it_mem hk)).1
    rw [List.flatMap_cons, List.filter_append, List.map_append, ih (fun x hx => ho x (by simp [hx]))]
    have e : (objs p k).filter (fun r => (it p (own p r)).ini && (r == start p (own p r))) = if (it p k).ini then [start p k] else [] := by
      unfold objs
      obtain ⟨m, hm⟩ : ∃ m, (it p k).n = m + 1 := ⟨(it p k).n - 1, by omega⟩
      have h0 := own_start (p := p) hk (show 0 < (it p k).n by omega)
      rw [Nat.add_zero] at h0
      rw [hm, List.range'_succ, List.filter_cons]
      have hrest : (List.range' (start p k + 1) m).filter (fun r => (it p (own p r)).ini && (r == start p (own p r))) = [] := by
        rw [List.filter_eq_nil_iff]
        intro r hr
        have h2 := List.mem_range'_1.1 hr
        have h3 := own_start (p := p) hk (show r - start p k < (it p k).n by omega)
        rw [show start p k + (r - start p k) = r by omega] at h3
        rw [h3]
        have : ¬ r = start p k := by omega
        simp [this]
      rw [hrest, h0]
      simp
    rw [e]
    have h0 := own_start (p := p) hk (show 0 < (it p k).n by omega)
    rw [Nat.add_zero] at h0
    cases hi : (it p k).ini
    · simp [hi]
    · simp [hi, h0]

/-- Where others refer to the last variable of a group alone, the order is that of the steps. -/
theorem order_law {p : List It} (hK : KOk p) (hr : ROk p) (hl : LoneP p) {ord : List Nat} (h : StepsTo p ord) (hf : Full p ord) {L : List Nat} (hL : Gdy (Vn p) (Nn p) L) (fL : FullG (Vn p) L) : emit p L = (ord.filter fun k => (it p k).ini).map (objs p) := by
  have ho := fun k hk => (h.lt k hk).1
  rw [← emit_flat hK ho, hL.unique fL (h.gdy hK hr hl) (hf.gdy ho)]
end Go.Proofs.YtelfaljidgfphaaGreat
