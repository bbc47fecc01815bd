/-
  A copy of declarations with one more behind them.
-/
import Derived.Test.YtelfaljidgfphaaGreatT2
import Derived.Test.YtelfaljidgfphaaGreatN2
namespace Go.Proofs.YtelfaljidgfphaaGreat
open Go.RowKit

theorem wt_snoc (p : List It) (x : It) : wt (p ++ [x]) = wt p + (x.refs.length + 1) := by
  rw [wt_append]
  simp [wt]

/-- 'append(append(Package(nil), p...), Item{..})' -/
theorem app_copy {w : World} {ok ok' : Nat → Prop} {A A' : Option Addr} {c c' : Nat} {p : List It} (hp : Its w ok (.slice A p.length c) p) (hl : p.length ≤ 2097152) (x : It)
    (hx : Ints w ok' (.slice A' x.refs.length c') x.refs) :
    ∃ A1 c1 w1, Hid ((Builtin.append_ #[26, 26] 26 #[.slice none 0 0, .slice A p.length c]).run Tryz.prog w = .ok (.slice A1 p.length c1) w1) ∧ Gr w w1 ∧
      Hid (∃ g o c2 w2, Hid ((Builtin.append_ #[26, 26] 26 #[.slice A1 p.length c1, .slice (some ⟨w1.heap.size, 0, none⟩) 1 1]).run Tryz.prog (w1.alloc (.cells #[.int .i64 x.kind, .int .i64 x.many, .slice A' x.refs.length c'] 47)) = .ok (.slice (some ⟨g, o, none⟩) (p.length + 1) c2) w2) ∧
        OwnIts w2 w.heap.size 47 (.slice (some ⟨g, o, none⟩) (p.length + 1) c2) (p ++ [x]) ∧ Gr w w2) := by
  obtain ⟨v1, w1, Hr1, ho1, hg1⟩ := copy_items hp hl 26
  obtain ⟨A1, c1, rfl⟩ := ho1.its.val
  obtain ⟨v2, w2, Hr2, ho2, hf2, -⟩ := ho1.push (x := x) (t := 26) (ty := 26) (hx.away hg1 ho1.blk) elem47 (by omega) Tryz.underlying26 hg1.size (by omega)
  have ho2' := ho2
  obtain ⟨vs, h1, h2, h3⟩ := ho2'
  obtain ⟨g, o, c2, cur, rfl, -, -, -, -, -⟩ := h2.at_ (by simp)
  simp only [List.length_append, List.length_cons, List.length_nil, Nat.zero_add] at Hr2 ho2
  exact ⟨A1, c1, w1, Hr1, hg1, Lib.hid ⟨g, o, c2, w2, Hr2, ho2, hg1.own hf2 (Nat.le_refl _)⟩⟩

theorem itCells_kind : ∀ (l : List It) (vs : List Value) (k : Nat) (x : Int), vs.length = l.length → k < l.length → (itCells l vs).set (k * 3) (.int .i64 x) = itCells (l.set k { it l k with kind := x }) vs
  | [], _, k, _, _, h => by simp at h
  | y :: l, [], k, _, h, _ => by simp at h
  | y :: l, v :: vs, 0, x, _, _ => by simp [itCells, it, intV]
  | y :: l, v :: vs, k + 1, x, h, hk => by
    have ih := itCells_kind l vs k x (by simpa using h) (by simpa using hk)
    have e : (k + 1) * 3 = k * 3 + 1 + 1 + 1 := by omega
    rw [e]
    simp only [itCells, List.set_cons_succ]
    rw [ih]
    simp [it]

/-- Another kind is laid. -/
theorem OwnIts.setKind {w : World} {B g o n c e : Nat} {l : List It} (h : OwnIts w B e (.slice (some ⟨g, o, none⟩) n c) l) {k : Nat} (hk : k < l.length) (x : Int) :
    OwnIts (w.setCell ⟨g, o + k * 3, none⟩ (.int .i64 x)) B e (.slice (some ⟨g, o, none⟩) n c) (l.set k { it l k with kind := x }) := by
  obtain ⟨vs, h1, h2, h3⟩ := h
  obtain rfl : n = l.length := by
    obtain ⟨A', c', e'⟩ := h2.arr.val
    simp only [Value.slice.injEq] at e'
    exact e'.2.1
  have hf := fr_set w g (o + k * 3) (.int .i64 x)
  refine ⟨vs, by simpa using h1, ?_, fun i y z hy hz => ?_⟩
  · have h4 := h2.set rfl (j := k * 3) (by omega) (.int .i64 x)
    rw [itCells_kind l vs k x h1 hk] at h4
    rw [List.length_set]
    exact h4
  · have h5 : ∃ x', l[i]? = some x' ∧ x'.refs = y.refs := by
      rw [List.getElem?_set] at hy
      by_cases e1 : k = i
      · subst e1
        rw [if_pos rfl, if_pos hk] at hy
        cases hy
        exact ⟨_, it_get hk, rfl⟩
      · rw [if_neg e1] at hy
        exact ⟨y, hy, rfl⟩
    obtain ⟨x', hx', hr⟩ := h5
    have h6 := (h3 i x' z hx' hz).fr hf (fun b hb e => hb (by rw [e]; rfl))
    rw [hr] at h6
    exact h6
end Go.Proofs.YtelfaljidgfphaaGreat
