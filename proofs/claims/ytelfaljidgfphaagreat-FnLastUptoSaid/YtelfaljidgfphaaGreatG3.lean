/-
  The order in which nodes come out of the queue, in plain Lean.
-/
import Derived.Test.YtelfaljidgfphaaGreatF2
namespace Go.Proofs.YtelfaljidgfphaaGreat

theorem Gdy.sibs {V : Nat → Prop} {N : Nat → Nat → Prop} {L : List Nat} (h : Gdy V N L) : ∀ v ∈ L, ∀ u, u < v → V u → (∀ s, N u s ↔ N v s) → u ∈ L := by
  induction h with
  | nil => simp
  | @snoc L k h1 h2 h3 ih =>
    intro v hv u hu hVu hN
    rcases List.mem_append.1 hv with h | h
    · exact List.mem_append.2 (.inl (ih v h u hu hVu hN))
    · simp at h
      subst h
      apply Classical.byContradiction
      intro hc
      exact h3 u hu ⟨hVu, fun hm => hc (List.mem_append.2 (.inl hm)), fun s hs => h2.2.2 s ((hN s).1 hs)⟩

theorem emit_snoc (p : List It) (L : List Nat) (x : Nat) : emit p (L ++ [x]) = emit p L ++ if (it p (own p x)).ini && (x == start p (own p x)) then [objs p (own p x)] else [] := by
  unfold emit
  rw [List.filter_append, List.map_append]
  congr 1
  by_cases h : ((it p (own p x)).ini && (x == start p (own p x))) = true
  · simp only [List.filter_cons, h, if_true, List.filter_nil, List.map_cons, List.map_nil]
  · simp only [List.filter_cons, h, if_false, List.filter_nil, List.map_nil, Bool.false_eq_true]

/-- The dependencies of the nodes that are no functions. -/
structure Dps (p : List It) (ks : Bool → Nat → List Nat) : Prop where
  succ : ∀ r, r < cnt p → kindAt p r ≠ 3 → ∀ s, s ∈ ks true r ↔ Rch p fFunc (own p r) s ∧ s < cnt p ∧ kindAt p s ≠ 3
  pred : ∀ r, r < cnt p → kindAt p r ≠ 3 → ∀ s, s ∈ ks false r ↔ s < cnt p ∧ kindAt p s ≠ 3 ∧ r ∈ ks true s

/-- cs: the constants that have come out; L: the variables, in their order; q: what is left. -/
structure Pst (p : List It) (ks : Bool → Nat → List Nat) (cs L q : List Nat) (dp : Nat → Int) : Prop where
  nodup : (cs ++ L ++ q).Nodup
  all : ∀ r, r ∈ cs ++ L ++ q ↔ r < cnt p ∧ kindAt p r ≠ 3
  dps : ∀ r, r < cnt p → kindAt p r ≠ 3 → dp r = (((ks true r).filter fun s => decide (s ∉ cs ++ L)).length : Int)
  consts : ∀ r ∈ cs, kindAt p r = 4
  gdy : Gdy (Vn p) (Nn p) L
  front : L ≠ [] → ∀ r ∈ q, kindAt p r ≠ 4

theorem kinds {p : List It} (hK : KOk p) {r : Nat} (hr : r < cnt p) : (kindAt p r ≠ 3 ∧ kindAt p r ≠ 4) ↔ (it p (own p r)).var = true := by
  obtain ⟨h1, h2, _⟩ := hK _ (it_mem (own_spec hr).1)
  unfold kindAt It.var
  simp only [Bool.or_eq_true, beq_iff_eq]
  omega

section
variable {p : List It} {ks : Bool → Nat → List Nat} {cs L q q' eks : List Nat} {dp : Nat → Int} {x : Nat}

theorem Pst.part (h : Pst p ks cs L q dp) : (∀ r ∈ L, Vn p r) ∧ (∀ r ∈ q, r ∉ cs ∧ r ∉ L ∧ r < cnt p ∧ kindAt p r ≠ 3) := by
  refine ⟨h.gdy.mem, fun r hr => ?_⟩
  have h1 := (List.nodup_append.1 h.nodup).2.2
  refine ⟨fun hc => h1 r (by simp [hc]) r hr rfl, fun hc => h1 r (by simp [hc]) r hr rfl, (h.all r).1 (by simp [hr])⟩

/-- What comes out: a constant ahead of all variables, or the next variable, which needs nothing more. -/
theorem Pst.pop (hK : KOk p) (hA : Acy p) (hD : Dps p ks) (h : Pst p ks cs L q dp) (hp : (x :: q').Perm q) (hle : ∀ y ∈ q, qkey p dp x ≤ qkey p dp y) (hb : ∀ r ∈ q, 0 ≤ dp r ∧ dp r ≤ cnt p) :
    (kindAt p x = 4 ∧ L = []) ∨ (kindAt p x ≠ 4 ∧ dp x = 0 ∧ CandG (Vn p) (Nn p) L x ∧ (∀ u, u < x → ¬ CandG (Vn p) (Nn p) L u) ∧ ∀ r ∈ q', kindAt p r ≠ 4) := by
  have hxq : x ∈ q := hp.mem_iff.1 (by simp)
  obtain ⟨hx1, hx2, hx3, hx4⟩ := h.part.2 x hxq
  by_cases hc : kindAt p x = 4
  · refine .inl ⟨hc, Classical.byContradiction fun hL => h.front hL x hxq hc⟩
  · refine .inr ⟨hc, ?_⟩
    have hnc : ∀ r ∈ q, kindAt p r ≠ 4 := fun r hr h4 => by
      have h5 := hle r hr
      obtain ⟨_, _, h6, _⟩ := h.part.2 r hr
      have := qkey_const h6 (hb r hr) (hb x hxq) h4 hc
      omega
    have hVx : Vn p x := ⟨hx3, (kinds hK hx3).1 ⟨hx4, hc⟩⟩
    -- what a variable that is left needs
    have hcand : ∀ v ∈ q, CandG (Vn p) (Nn p) L v ↔ dp v = 0 := fun v hv => by
      obtain ⟨hv1, hv2, hv3, hv4⟩ := h.part.2 v hv
      rw [h.dps v hv3 hv4]
      constructor
      · rintro ⟨_, _, h6⟩
        have : (ks true v).filter (fun s => decide (s ∉ cs ++ L)) = [] := by
          rw [List.filter_eq_nil_iff]
          intro s hs
          obtain ⟨h7, h8, h9⟩ := (hD.succ v hv3 hv4 s).1 hs
          by_cases h10 : kindAt p s = 4
          · have h11 := (h.all s).2 ⟨h8, h9⟩
            rcases List.mem_append.1 h11 with h12 | h12
            · rw [decide_eq_true_eq]; exact fun h => h h12
            · exact absurd h10 (hnc s h12)
          · have := h6 s ⟨h7, h8, (kinds hK h8).1 ⟨h9, h10⟩⟩
            simp [this]
        rw [this]; rfl
      · intro h5
        refine ⟨⟨hv3, (kinds hK hv3).1 ⟨hv4, hnc v hv⟩⟩, hv2, fun s hs => ?_⟩
        have h6 : (ks true v).filter (fun s => decide (s ∉ cs ++ L)) = [] := List.eq_nil_of_length_eq_zero (by omega)
        rw [List.filter_eq_nil_iff] at h6
        have hk := (kinds hK hs.2.1).2 hs.2.2
        have h7 := h6 s ((hD.succ v hv3 hv4 s).2 ⟨hs.1, hs.2.1, hk.1⟩)
        simp at h7
        by_cases h8 : s ∈ cs
        · exact absurd (h.consts s h8) hk.2
        · exact Classical.byContradiction fun h9 => by simp [h8, h9] at h7
    have hnf : ¬ FullG (Vn p) L := fun hf => hx2 (hf x hVx)
    obtain ⟨L0, hL0, fL0⟩ := hA
    obtain ⟨v, hv, hmin⟩ := hL0.next fL0 h.gdy hnf
    have hvq : v ∈ q := by
      have h5 := (kinds hK hv.1.1).2 hv.1.2
      have h6 := (h.all v).2 ⟨hv.1.1, h5.1⟩
      rcases List.mem_append.1 h6 with h7 | h7
      · rcases List.mem_append.1 h7 with h8 | h8
        · exact absurd (h.consts v h8) h5.2
        · exact absurd h8 hv.2.1
      · exact h7
    have hdv := (hcand v hvq).1 hv
    have hdx : dp x = 0 := by
      have h5 := hle v hvq
      have h6 := (hb x hxq).1
      apply Classical.byContradiction
      intro h7
      have := qkey_dp (dp := dp) (r := v) (s := x) hv.1.1 ⟨fun e => absurd e (hnc v hvq), fun e => absurd e hc⟩ (by omega)
      omega
    have hcx := (hcand x hxq).2 hdx
    have hxv : x = v := by
      have h5 := hle v hvq
      have h6 := qkey_num (p := p) (dp := dp) (r := v) (s := x) ⟨fun e => absurd e (hnc v hvq), fun e => absurd e hc⟩ (by omega)
      have h7 : ¬ v < x := fun e => by have := h6.2 e; omega
      have h8 : ¬ x < v := fun e => hmin x e hcx
      omega
    subst hxv
    exact ⟨hdx, hcx, hmin, fun r hr => hnc r (hp.mem_iff.1 (by simp [hr]))⟩

/-- What is left when all that needed x has been told. -/
theorem Pst.next (h : Pst p ks cs L q dp) (hD : Dps p ks) (hp : (x :: q').Perm q) {dp' : Nat → Int} (hd : ∀ r, dp' r = dp r - if r ∈ ks false x then 1 else 0) {cs' L' : List Nat} (hcl : (cs' ++ L').Perm (cs ++ L ++ [x])) (hnd : ∀ r, r < cnt p → (ks true r).Nodup)
    (hc : ∀ r ∈ cs', kindAt p r = 4) (hg : Gdy (Vn p) (Nn p) L') (hf : L' ≠ [] → ∀ r ∈ q', kindAt p r ≠ 4) : Pst p ks cs' L' q' dp' := by
  have hpm : (cs' ++ L' ++ q').Perm (cs ++ L ++ q) := by
    refine (hcl.append_right q').trans ?_
    rw [List.append_assoc (cs ++ L)]
    exact List.Perm.append_left _ hp
  have hxq : x ∈ q := hp.mem_iff.1 (by simp)
  obtain ⟨hx1, hx2, hx3, hx4⟩ := h.part.2 x hxq
  have hxn : x ∉ cs ++ L := by simp [hx1, hx2]
  refine ⟨hpm.nodup_iff.2 h.nodup, fun r => hpm.mem_iff.trans (h.all r), fun r hr3 hr4 => ?_, hc, hg, hf⟩
  have hpr : r ∈ ks false x ↔ x ∈ ks true r := by rw [hD.pred x hx3 hx4 r]; simp [hr3, hr4]
  rw [hd r, h.dps r hr3 hr4]
  have e : (ks true r).filter (fun s => decide (s ∉ cs' ++ L')) = ((ks true r).filter fun s => decide (s ∉ cs ++ L)).filter fun s => decide (s ≠ x) := by
    rw [List.filter_filter]
    refine List.filter_congr fun s _ => ?_
    have := hcl.mem_iff (a := s)
    rw [Bool.eq_iff_iff]
    simp only [decide_eq_true_eq, Bool.and_eq_true]
    rw [this]
    simp only [List.mem_append, List.mem_singleton, not_or]
    constructor
    · rintro ⟨h1, h2⟩; exact ⟨h2, h1⟩
    · rintro ⟨h1, h2⟩; exact ⟨h2, h1⟩
  rw [e]
  have hn := (hnd r hr3).filter (fun s => decide (s ∉ cs ++ L))
  by_cases hx : x ∈ ks true r
  · rw [if_pos (hpr.2 hx)]
    have hin : x ∈ (ks true r).filter fun s => decide (s ∉ cs ++ L) := List.mem_filter.2 ⟨hx, by simpa using hxn⟩
    have e2 : ((ks true r).filter fun s => decide (s ∉ cs ++ L)).filter (fun s => decide (s ≠ x)) = ((ks true r).filter fun s => decide (s ∉ cs ++ L)).erase x := by
      rw [List.Nodup.erase_eq_filter hn]
      refine List.filter_congr fun s _ => ?_
      rw [Bool.eq_iff_iff]; simp
    rw [e2, List.length_erase_of_mem hin]
    have := List.length_pos_of_mem hin
    omega
  · rw [if_neg (fun e => hx (hpr.1 e))]
    have e2 : ((ks true r).filter fun s => decide (s ∉ cs ++ L)).filter (fun s => decide (s ≠ x)) = (ks true r).filter fun s => decide (s ∉ cs ++ L) := by
      rw [List.filter_eq_self]
      intro s hs
      have : s ≠ x := by rintro rfl; exact hx (List.mem_filter.1 hs).1
      simp [this]
    rw [e2]
    simp

theorem Pst.last (hK : KOk p) (h : Pst p ks cs L [] dp) : FullG (Vn p) L := fun v hv => by
  have h5 := (kinds hK hv.1).2 hv.2
  have h6 := (h.all v).2 ⟨hv.1, h5.1⟩
  rw [List.append_nil] at h6
  rcases List.mem_append.1 h6 with h8 | h8
  · exact absurd (h.consts v h8) h5.2
  · exact h8

/-- The declarations that have been told. -/
def Told (p : List It) (L eks : List Nat) : Prop := eks.map (objs p) = emit p L ∧ ∀ k, k ∈ eks ↔ (it p k).ini = true ∧ ∃ v ∈ L, own p v = k

theorem Told.plain (h : Told p L eks) (hx : (it p (own p x)).ini = false) : Told p (L ++ [x]) eks := by
  refine ⟨by rw [emit_snoc, hx]; simpa using h.1, fun k => ?_⟩
  rw [h.2]
  constructor
  · rintro ⟨h1, v, h2, h3⟩; exact ⟨h1, v, by simp [h2], h3⟩
  · rintro ⟨h1, v, h2, h3⟩
    rcases List.mem_append.1 h2 with h4 | h4
    · exact ⟨h1, v, h4, h3⟩
    · simp at h4; subst h4; rw [h3] at hx; rw [hx] at h1; cases h1

theorem Nn_own {p : List It} {u v : Nat} (h : own p u = own p v) (s : Nat) : Nn p u s ↔ Nn p v s := by unfold Nn; rw [h]

theorem Told.again (h : Told p L eks) (hg : Gdy (Vn p) (Nn p) L) (hx : x ∉ L) (hv : Vn p x) (hin : own p x ∈ eks) : Told p (L ++ [x]) eks := by
  obtain ⟨h1, v, h2, h3⟩ := (h.2 _).1 hin
  have hne : ¬ x = start p (own p x) := fun e => by
    have h4 := (own_spec (hg.mem v h2).1).2.1
    rw [h3] at h4
    have h5 : x ≠ v := fun e => hx (e ▸ h2)
    exact hx (hg.sibs v h2 x (by omega) hv (fun s => Nn_own h3.symm s))
  refine ⟨by rw [emit_snoc]; simpa [hne] using h.1, fun k => ?_⟩
  rw [h.2]
  constructor
  · rintro ⟨h1, v, h2, h3⟩; exact ⟨h1, v, by simp [h2], h3⟩
  · rintro ⟨h1', v', h2', h3'⟩
    rcases List.mem_append.1 h2' with h4 | h4
    · exact ⟨h1', v', h4, h3'⟩
    · simp at h4; subst h4; exact ⟨h1', v, h2, h3.trans h3'⟩

theorem Told.new (h : Told p L eks) (hc : CandG (Vn p) (Nn p) L x) (hm : ∀ u, u < x → ¬ CandG (Vn p) (Nn p) L u) (hi : (it p (own p x)).ini = true) (hin : own p x ∉ eks) : Told p (L ++ [x]) (eks ++ [own p x]) := by
  have hxc := hc.1.1
  obtain ⟨h1, h2, h3⟩ := own_spec hxc
  have h0 := own_start (p := p) (k := own p x) (j := 0) h1 (by omega)
  rw [Nat.add_zero] at h0
  have he : x = start p (own p x) := by
    apply Classical.byContradiction
    intro hne
    have h4 : start p (own p x) ∈ L := by
      apply Classical.byContradiction
      intro h5
      exact hm (start p (own p x)) (by omega) ⟨⟨by omega, by rw [h0]; exact hc.1.2⟩, h5, fun s hs => hc.2.2 s ((Nn_own h0 s).1 hs)⟩
    exact hin ((h.2 _).2 ⟨hi, _, h4, h0⟩)
  have hb : (x == start p (own p x)) = true := by simpa using he
  refine ⟨by rw [emit_snoc, hi, hb]; simp [h.1], fun k => ?_⟩
  rw [List.mem_append, h.2]
  constructor
  · rintro (⟨h4, v, h5, h6⟩ | h4)
    · exact ⟨h4, v, by simp [h5], h6⟩
    · simp at h4; subst h4; exact ⟨hi, x, by simp, rfl⟩
  · rintro ⟨h4, v, h5, h6⟩
    rcases List.mem_append.1 h5 with h7 | h7
    · exact .inl ⟨h4, v, h7, h6⟩
    · simp at h7; subst h7; simp [h6]

/-- A node that needs what has not come out yet has something left to wait for. -/
theorem Pst.one (h : Pst p ks cs L q dp) (hD : Dps p ks) (hx : x ∈ q) {r : Nat} (hr : r ∈ ks false x) : r < cnt p ∧ kindAt p r ≠ 3 ∧ 1 ≤ dp r ∧ (∀ r', r' < cnt p → (ks true r').length ≤ cnt p → kindAt p r' ≠ 3 → 0 ≤ dp r' ∧ dp r' ≤ cnt p) := by
  obtain ⟨hx1, hx2, hx3, hx4⟩ := h.part.2 x hx
  obtain ⟨h1, h2, h3⟩ := (hD.pred x hx3 hx4 r).1 hr
  refine ⟨h1, h2, ?_, fun r' hr1 hr2 hr3 => ?_⟩
  · rw [h.dps r h1 h2]
    have hin : x ∈ (ks true r).filter fun s => decide (s ∉ cs ++ L) := List.mem_filter.2 ⟨h3, by simp [hx1, hx2]⟩
    have := List.length_pos_of_mem hin
    omega
  · rw [h.dps r' hr1 hr3]
    have := List.length_filter_le (fun s => decide (s ∉ cs ++ L)) (ks true r')
    omega

theorem dps_of (hr : ROk p) {fs : List Nat} (hfs : ∀ r, r ∈ fs ↔ r < cnt p ∧ kindAt p r = 3) (hi : Inv (cnt p) fs (EL p fs) ks) : Dps p ks where
  succ r hrn h3 s := by
    have hrf : r ∉ fs := fun h => h3 ((hfs r).1 h).2
    constructor
    · intro h
      have hl := hi.live true r s hrn hrf h
      exact ⟨(via_rch hr hfs hrn s).1 ((EL_via p _ fs rfl r s).1 ((hi.succ r s hrn hl.1 hrf hl.2).1 h)), hl.1, fun e => hl.2 ((hfs s).2 ⟨hl.1, e⟩)⟩
    · rintro ⟨h1, h2, h4⟩
      exact (hi.succ r s hrn h2 hrf (fun h => h4 ((hfs s).1 h).2)).2 ((EL_via p _ fs rfl r s).2 ((via_rch hr hfs hrn s).2 h1))
  pred r hrn h3 s := by
    have hrf : r ∉ fs := fun h => h3 ((hfs r).1 h).2
    constructor
    · intro h
      have hl := hi.live false r s hrn hrf h
      exact ⟨hl.1, fun e => hl.2 ((hfs s).2 ⟨hl.1, e⟩), (hi.succ s r hl.1 hrn hl.2 hrf).2 ((hi.pred s r hl.1 hrn hl.2 hrf).1 h)⟩
    · rintro ⟨h1, h2, h4⟩
      have hsf : s ∉ fs := fun h => h2 ((hfs s).1 h).2
      exact (hi.pred s r h1 hrn hsf hrf).2 ((hi.succ s r h1 hrn hsf hrf).1 h4)

theorem Pst.start {lg : List Nat} (hd : lg.Nodup) (hm : ∀ r, r ∈ lg ↔ r < cnt p ∧ kindAt p r ≠ 3) (hdp : ∀ r, r < cnt p → kindAt p r ≠ 3 → dp r = ((ks true r).length : Int)) : Pst p ks [] [] lg dp where
  nodup := by simpa using hd
  all r := by simpa using hm r
  dps r h1 h2 := by
    rw [hdp r h1 h2, List.filter_eq_self.2 (fun s _ => by simp)]
  consts := by simp
  gdy := .nil
  front h := absurd rfl h
end
end Go.Proofs.YtelfaljidgfphaaGreat
