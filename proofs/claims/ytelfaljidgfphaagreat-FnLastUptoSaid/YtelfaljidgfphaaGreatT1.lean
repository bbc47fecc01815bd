/-
  Plain: declarations that differ in their references alone.
-/
import Derived.Test.YtelfaljidgfphaaGreatL1
namespace Go.Proofs.YtelfaljidgfphaaGreat

/-- The same kinds, the same numbers of objects. -/
def Same (p q : List It) : Prop := q.map (fun x => (x.kind, x.many)) = p.map (fun x => (x.kind, x.many))

theorem ownersFrom_same : ∀ (p q : List It) (k : Nat), q.map It.n = p.map It.n → ownersFrom k q = ownersFrom k p
  | [], [], _, _ => rfl
  | [], y :: q, _, h => by simp at h
  | x :: p, [], _, h => by simp at h
  | x :: p, y :: q, k, h => by
    simp only [List.map_cons, List.cons.injEq] at h
    simp only [ownersFrom, h.1, ownersFrom_same p q (k + 1) h.2]

section
variable {p q : List It}
theorem Same.n (h : Same p q) : q.map It.n = p.map It.n := by
  have e : ∀ l : List It, l.map It.n = (l.map fun x => (x.kind, x.many)).map fun y => if y.1 = 1 then y.2.toNat else 1 := fun l => by rw [List.map_map]; rfl
  rw [e, e, h]
theorem Same.len (h : Same p q) : q.length = p.length := by have := congrArg List.length h; simpa using this
theorem Same.owners (h : Same p q) : owners q = owners p := ownersFrom_same p q 0 h.n
theorem Same.cnt (h : Same p q) : cnt q = cnt p := by unfold Go.Proofs.YtelfaljidgfphaaGreat.cnt; rw [h.owners]
theorem Same.own (h : Same p q) (r : Nat) : own q r = own p r := by unfold Go.Proofs.YtelfaljidgfphaaGreat.own; rw [h.owners]
theorem Same.take (h : Same p q) (k : Nat) : Same (p.take k) (q.take k) := by unfold Same at *; rw [List.map_take, List.map_take, h]
theorem Same.start (h : Same p q) (k : Nat) : start q k = start p k := (h.take k).cnt
theorem Same.it (h : Same p q) (k : Nat) : (it q k).kind = (it p k).kind ∧ (it q k).many = (it p k).many := by
  have h1 := congrArg (fun l => l[k]?) h
  simp only [List.getElem?_map] at h1
  unfold Go.Proofs.YtelfaljidgfphaaGreat.it
  rw [List.getD_eq_getElem?_getD, List.getD_eq_getElem?_getD]
  cases hq : q[k]? <;> cases hp : p[k]? <;> rw [hq, hp] at h1 <;> simp at h1 ⊢
  exact h1
theorem Same.itn (h : Same p q) (k : Nat) : (Go.Proofs.YtelfaljidgfphaaGreat.it q k).n = (Go.Proofs.YtelfaljidgfphaaGreat.it p k).n := by unfold It.n; rw [(h.it k).1, (h.it k).2]
theorem Same.var (h : Same p q) (k : Nat) : (Go.Proofs.YtelfaljidgfphaaGreat.it q k).var = (Go.Proofs.YtelfaljidgfphaaGreat.it p k).var := by unfold It.var; rw [(h.it k).1]
theorem Same.ini (h : Same p q) (k : Nat) : (Go.Proofs.YtelfaljidgfphaaGreat.it q k).ini = (Go.Proofs.YtelfaljidgfphaaGreat.it p k).ini := by unfold It.ini; rw [(h.it k).1]
theorem Same.objs (h : Same p q) (k : Nat) : objs q k = objs p k := by unfold Go.Proofs.YtelfaljidgfphaaGreat.objs; rw [h.start, h.itn]
theorem Same.kindAt (h : Same p q) (r : Nat) : kindAt q r = kindAt p r := by unfold Go.Proofs.YtelfaljidgfphaaGreat.kindAt; rw [h.own]; exact (h.it _).1
theorem Same.vn (h : Same p q) (r : Nat) : Vn p r ↔ Vn q r := by unfold Vn; rw [h.cnt, h.own, h.var]
theorem Same.emit (h : Same p q) (L : List Nat) : emit q L = emit p L := by
  unfold Go.Proofs.YtelfaljidgfphaaGreat.emit
  simp only [h.own, h.ini, h.start, h.objs]

/-- One order, where the variables need the same. -/
theorem Em.same (h : Same p q) (hN : ∀ v s, Vn p v → (Nn p v s ↔ Nn q v s)) {a : List (List Nat)} (ha : Em p a) : Em q a := by
  obtain ⟨L, h1, h2, rfl⟩ := ha
  exact ⟨L, h1.congr h.vn hN, fun v hv => h2 v ((h.vn v).2 hv), (h.emit L).symm⟩
theorem Acy.same (h : Same p q) (hN : ∀ v s, Vn p v → (Nn p v s ↔ Nn q v s)) (ha : Acy p) : Acy q := by
  obtain ⟨L, h1, h2⟩ := ha
  exact ⟨L, h1.congr h.vn hN, fun v hv => h2 v ((h.vn v).2 hv)⟩

/-- References that lead nowhere else. -/
theorem rch_all_sub (h : Same p q) (hE : ∀ k r : Nat, (r : Int) ∈ (it q k).refs → Rch p fAll k r) {k r : Nat} (hr : Rch q fAll k r) : Rch p fAll k r := by
  have tr : ∀ {k a b : Nat}, Rch p fAll k a → Rch p fAll (own p a) b → Rch p fAll k b := by
    intro k a b h1 h2
    induction h2 with
    | ref h3 => exact .step h1 rfl h3
    | step _ h4 h5 ih => exact .step ih rfl h5
  induction hr with
  | ref h1 => exact hE _ _ h1
  | @step a b _ _ h3 ih =>
    rw [h.own] at h3
    exact tr ih (hE _ _ h3)

theorem Ok.same (hO : Ok p) (h : Same p q) (hpl : ∀ k, (it p k).kind = 2 → (it q k).refs = []) (hrr : ∀ k r, r ∈ (it q k).refs → 0 ≤ r ∧ r < (cnt p : Int)) (hwt : ∀ k, k < p.length → (it q k).refs.length ≤ 1099511627776)
    (hE : ∀ k r : Nat, (r : Int) ∈ (it q k).refs → Rch p fAll k r) (hA : Acy q) : Ok q where
  len := by rw [h.len]; exact hO.len
  kinds x hx := by
    obtain ⟨k, hk⟩ := List.mem_iff_getElem?.1 hx
    have hkl := (List.getElem?_eq_some_iff.1 hk).1
    have e := it_of hk
    have hi := h.it k
    obtain ⟨h1, h2, h3, h4, h5⟩ := hO.kinds (it p k) (it_mem (by rw [← h.len]; exact hkl))
    rw [e] at hi
    rw [← hi.1, ← hi.2] at h3
    rw [← hi.1, ← hi.2] at h4
    rw [← hi.1] at h1 h2
    refine ⟨h1, h2, h3, h4, fun h6 => ?_⟩
    have := hpl k (by rw [← hi.1]; exact h6)
    rwa [e] at this
  refs x hx r hr := by
    obtain ⟨k, hk⟩ := List.mem_iff_getElem?.1 hx
    have := hrr k r (by rw [it_of hk]; exact hr)
    rw [h.cnt]; exact this
  wt k hk := hwt k (by rw [← h.len]; exact hk)
  const r hr h4 hc := by
    rw [h.kindAt] at h4
    rw [h.cnt] at hr
    rw [h.own] at hc
    exact hO.const r hr h4 (rch_all_sub h hE hc)
  acy := hA
end
end Go.Proofs.YtelfaljidgfphaaGreat
