/-
  Nodes: what package impl hands to package initorder.
-/
import Derived.Test.YtelfaljidgfphaaGreatI1
namespace Go.Proofs.YtelfaljidgfphaaGreat
open Go.RowKit

/-- A node. -/
structure Nd where
  kind : Int
  ord : Nat
  ini : Bool
  grp : Nat
  refs : List Int

def kindN (x : It) : Int := if x.kind = 3 then 2 else if x.kind = 4 then 0 else 1
/-- The node of the object r. -/
def ndOf (p : List It) (r : Nat) : Nd := ⟨kindN (it p (own p r)), r, (it p (own p r)).ini, if (it p (own p r)).kind = 1 then own p r + 1 else 0, (it p (own p r)).refs⟩
def nodesOf (p : List It) (m : Nat) : List Nd := (List.range m).map (ndOf p)

def ndCells : List Nd → List Value → List Value
  | x :: xs, v :: vs => .int .i64 x.kind :: .int .u32 (x.ord : Int) :: .bool x.ini :: .int .i64 (x.grp : Int) :: v :: ndCells xs vs
  | _, _ => []

/-- A slice of nodes that is read. -/
def Nds (w : World) (ok : Nat → Prop) (v : Value) (l : List Nd) : Prop :=
  ∃ vs : List Value, vs.length = l.length ∧ Arr w ok v l.length 5 (ndCells l vs) ∧ ∀ (i : Nat) (x : Nd) (u : Value), l[i]? = some x → vs[i]? = some u → Ints w ok u x.refs
/-- A slice of nodes of the call's own. -/
def OwnNds (w : World) (B : Nat) (v : Value) (l : List Nd) : Prop :=
  ∃ vs : List Value, vs.length = l.length ∧ Own w (fun b => B ≤ b) 94 5 v l.length (ndCells l vs) ∧ ∀ (i : Nat) (x : Nd) (u : Value), l[i]? = some x → vs[i]? = some u → Ints w (fun b => b < B) u x.refs

theorem ndCells_snoc : ∀ (l : List Nd) (vs : List Value) (x : Nd) (u : Value), vs.length = l.length → ndCells (l ++ [x]) (vs ++ [u]) = ndCells l vs ++ [.int .i64 x.kind, .int .u32 (x.ord : Int), .bool x.ini, .int .i64 (x.grp : Int), u]
  | [], [], x, u, _ => by simp [ndCells]
  | [], _ :: _, x, u, h => by simp at h
  | _ :: _, [], x, u, h => by simp at h
  | y :: l, v :: vs, x, u, h => by simp [ndCells, ndCells_snoc l vs x u (by simpa using h)]

theorem ndCells_at : ∀ (l : List Nd) (vs : List Value), vs.length = l.length → ∀ (i : Nat) (x : Nd) (u : Value), l[i]? = some x → vs[i]? = some u →
    (ndCells l vs)[i * 5]? = some (.int .i64 x.kind) ∧ (ndCells l vs)[i * 5 + 1]? = some (.int .u32 (x.ord : Int)) ∧ (ndCells l vs)[i * 5 + 2]? = some (.bool x.ini) ∧ (ndCells l vs)[i * 5 + 3]? = some (.int .i64 (x.grp : Int)) ∧ (ndCells l vs)[i * 5 + 4]? = some u
  | [], vs, hl, i, x, u, h, _ => by simp at h
  | y :: l, [], hl, i, x, u, h, _ => by simp at hl
  | y :: l, v :: vs, hl, 0, x, u, h, h' => by simp at h h'; subst h; subst h'; simp [ndCells]
  | y :: l, v :: vs, hl, i + 1, x, u, h, h' => by
    have := ndCells_at l vs (by simpa using hl) i x u (by simpa using h) (by simpa using h')
    have e : (i + 1) * 5 = i * 5 + 5 := by omega
    rw [e]
    simpa [ndCells] using this

theorem arr_new (w : World) (cs : Array Value) (e sz : Nat) (hs : cs.size = sz) : Arr (w.alloc (.cells cs e)) (fun _ => True) (.slice (some ⟨w.heap.size, 0, none⟩) 1 1) 1 sz cs.toList :=
  ⟨by simp [hs], _, _, rfl, Nat.le_refl _, .inr ⟨w.heap.size, 0, rfl, trivial, by simp, fun j u hu => by
    rw [cell_row (heap_alloc_new w _)]
    simpa using hu⟩⟩

/-- append(v, x), x of whatever cells -/
theorem appN {P : Program} {e t ty sz : TypeId} {z : Value} {bytes : Nat} (E : ElemOk P e z sz bytes) (ht : P.underlying t = some (.slice e)) {w : World} {B n : Nat} {v : Value} {cs : List Value}
    (hown : Own w (fun b => B ≤ b) e sz v n cs) (xs : Array Value) (hs : xs.size = sz) (hx : ∀ u ∈ xs.toList, u.oneCell' = true) (hB : B ≤ w.heap.size) (hn : n ≤ 1099511627776) (hb : bytes ≤ 64) :
    ∃ v' w', Hid ((Builtin.append_ #[t, t] ty #[v, .slice (some ⟨w.heap.size, 0, none⟩) 1 1]).run P (w.alloc (.cells xs e)) = .ok v' w') ∧ Own w' (fun b => B ≤ b) e sz v' (n + 1) (cs ++ xs.toList) ∧
      Fr (fun k => v.ownBlock = some k) w w' ∧ Fr (fun k => B ≤ k) w w' ∧ (∀ k, v'.ownBlock = some k → v.ownBlock = some k ∨ w.heap.size ≤ k) ∧ v' ≠ .slice none 0 0 := by
  obtain ⟨v', w', h1, h2, h3, h4, h5⟩ := run_append (P := P) (ty := ty) E ht ht (hown.alloc (.cells xs e)) (arr_new w xs e sz hs) hx (by simp only [maxLen]; omega)
    (by have : (n + 1) * bytes ≤ (n + 1) * 64 := Nat.mul_le_mul_left _ hb
        omega) (fun b hb => by simp at hb; omega)
  have h3' : Fr (fun k => v.ownBlock = some k) w w' := Fr.trans ((Fr.refl _ w).alloc _) h3
  exact ⟨v', w', h1, h2, h3', h3'.mono (fun k _ hk => blk_ge hown k hk), fun k hk => (h5 k hk).imp id (fun h => by simp at h; omega), fun e => by have := (h4.1 e).2; omega⟩

theorem info94 : (Tryz.prog.info? 94).map (fun i => (i.zero, i.size, i.bytes)) = some (some (.agg #[.int .i64 0, .int .u32 0, .bool false, .int .i64 0, .slice none 0 0]), 5, 48) := by kernel_rfl
theorem elem94 : ElemOk Tryz.prog 94 (.agg #[.int .i64 0, .int .u32 0, .bool false, .int .i64 0, .slice none 0 0]) 5 48 := ElemOk.mk' info94 rfl (by decide)

section
variable {w w' : World} {B : Nat} {v v' : Value} {l : List Nd}
theorem OwnNds.nil (w : World) (B : Nat) : OwnNds w B (.slice none 0 0) [] := ⟨[], rfl, Own.nil _ _ _ _, fun i x u h => by simp at h⟩
theorem OwnNds.gr (h : OwnNds w B v l) (hg : Gr w w') : OwnNds w' B v l := by
  obtain ⟨vs, h1, h2, h3⟩ := h
  exact ⟨vs, h1, h2.gr hg, fun i x u hx hu => (h3 i x u hx hu).gr hg⟩
theorem OwnNds.nds (h : OwnNds w B v l) : Nds w (fun _ => True) v l := by
  obtain ⟨vs, h1, h2, h3⟩ := h
  exact ⟨vs, h1, h2.arr.mono (fun _ _ _ => trivial), fun i x u hx hu => (h3 i x u hx hu).mono (fun _ _ _ => trivial)⟩
theorem OwnNds.blk (h : OwnNds w B v l) : ∀ b, v.ownBlock = some b → B ≤ b := by
  obtain ⟨vs, h1, h2, h3⟩ := h
  exact blk_ge h2
theorem OwnNds.lt (h : OwnNds w B v l) : ∀ b, v.ownBlock = some b → b < w.heap.size := by
  obtain ⟨vs, h1, h2, h3⟩ := h
  exact fun b hb => (h2.blk b hb).2
theorem OwnNds.fr {S : Nat → Prop} (h : OwnNds w B v l) (hf : Fr S w w') (hs : ∀ b, v.ownBlock = some b → ¬ S b) (hS : ∀ b, S b → B ≤ b) : OwnNds w' B v l := by
  obtain ⟨vs, h1, h2, h3⟩ := h
  exact ⟨vs, h1, h2.fr hf hs, fun i x u hx hu => (h3 i x u hx hu).fr hf (fun b hb hSb => by have := hS b hSb; omega)⟩

/-- One node more. -/
theorem OwnNds.push (h : OwnNds w B v l) {x : Nd} {A : Option Addr} {c : Nat} (hu : Ints w (fun b => b < B) (.slice A x.refs.length c) x.refs) (hB : B ≤ w.heap.size) (hn : l.length ≤ 1099511627776) {xs : Array Value}
    (hxs : xs = #[.int .i64 x.kind, .int .u32 (x.ord : Int), .bool x.ini, .int .i64 (x.grp : Int), .slice A x.refs.length c]) :
    ∃ v' w', Hid ((Builtin.append_ #[68, 68] 68 #[v, .slice (some ⟨w.heap.size, 0, none⟩) 1 1]).run Tryz.prog (w.alloc (.cells xs 94)) = .ok v' w') ∧ OwnNds w' B v' (l ++ [x]) ∧ Fr (fun k => v.ownBlock = some k) w w' ∧ Fr (fun b => B ≤ b) w w' ∧ (∀ k, v'.ownBlock = some k → v.ownBlock = some k ∨ w.heap.size ≤ k) := by
  obtain ⟨vs, h1, h2, h3⟩ := h
  subst hxs
  obtain ⟨v', w', Hr, hown, hf1, hf2, hblk, hne⟩ := appN (P := Tryz.prog) (t := 68) (ty := 68) elem94 Tryz.underlying68 h2 #[.int .i64 x.kind, .int .u32 (x.ord : Int), .bool x.ini, .int .i64 (x.grp : Int), .slice A x.refs.length c] rfl (by simp [Value.oneCell']) hB hn (by omega)
  refine ⟨v', w', Hr, ⟨vs ++ [.slice A x.refs.length c], by simp [h1], by rw [ndCells_snoc _ _ _ _ h1]; simpa using hown, ?_⟩, hf1, hf2, hblk⟩
  refine ptw_snoc (R := fun (y : Nd) z => Ints w' (fun b => b < B) z y.refs) h1 (fun i y z hy hz => ?_) ?_
  · exact (h3 i y z hy hz).fr hf2 (fun b hb hc => by omega)
  · exact hu.fr hf2 (fun b hb hc => by omega)
end

theorem nodesOf_succ (p : List It) (m : Nat) : nodesOf p (m + 1) = nodesOf p m ++ [ndOf p m] := by simp [nodesOf, List.range_succ]
theorem nodesOf_length (p : List It) (m : Nat) : (nodesOf p m).length = m := by simp [nodesOf]
theorem nodesOf_get {p : List It} {m r : Nat} (h : r < m) : (nodesOf p m)[r]? = some (ndOf p r) := by simp [nodesOf, h]

/-- The node at a place, as it is read. -/
theorem Nds.at_ {w : World} {ok : Nat → Prop} {l : List Nd} {A : Option Addr} {n c r : Nat} {x : Nd} (h : Nds w ok (.slice A n c) l) (hr : l[r]? = some x) :
    ∃ b o A' c', A = some ⟨b, o, none⟩ ∧ ok b ∧ b < w.heap.size ∧ w.cell? ⟨b, o + r * 5, none⟩ = some (.int .i64 x.kind) ∧ w.cell? ⟨b, o + r * 5 + 1, none⟩ = some (.int .u32 (x.ord : Int)) ∧ w.cell? ⟨b, o + r * 5 + 2, none⟩ = some (.bool x.ini) ∧
      w.cell? ⟨b, o + r * 5 + 3, none⟩ = some (.int .i64 (x.grp : Int)) ∧ w.cell? ⟨b, o + r * 5 + 4, none⟩ = some (.slice A' x.refs.length c') ∧ Ints w ok (.slice A' x.refs.length c') x.refs := by
  obtain ⟨vs, hvl, harr, hrefs⟩ := h
  have hrl := (List.getElem?_eq_some_iff.1 hr).1
  obtain ⟨b, o, c0, he, _, hokb, hbl, hc⟩ := harr.at_ (by omega)
  obtain ⟨u, hu⟩ := get_lt (l := vs) (k := r) (by omega)
  obtain ⟨h0, h1, h2, h3, h4⟩ := ndCells_at l vs hvl r _ u hr hu
  have hi := hrefs r _ u hr hu
  obtain ⟨A', c', rfl⟩ := hi.val
  simp only [Value.slice.injEq] at he
  exact ⟨b, o, A', c', he.1, hokb, hbl, hc _ _ h0, hc _ _ h1, hc _ _ h2, hc _ _ h3, hc _ _ h4, hi⟩
theorem Nds.fr {S : Nat → Prop} {w w' : World} {ok : Nat → Prop} {v : Value} {l : List Nd} (h : Nds w ok v l) (hf : Fr S w w') (hs : ∀ b, ok b → ¬ S b) : Nds w' ok v l := by
  obtain ⟨vs, h1, h2, h3⟩ := h
  exact ⟨vs, h1, h2.fr hf hs, fun i x u hx hu => (h3 i x u hx hu).fr hf hs⟩
theorem Nds.gr {w w' : World} {ok : Nat → Prop} {v : Value} {l : List Nd} (h : Nds w ok v l) (hg : Gr w w') : Nds w' ok v l := Nds.fr h hg (fun _ _ => id)
theorem Nds.val {w : World} {ok : Nat → Prop} {v : Value} {l : List Nd} (h : Nds w ok v l) : ∃ A c, v = .slice A l.length c := by
  obtain ⟨vs, _, h2, _⟩ := h
  exact h2.val
end Go.Proofs.YtelfaljidgfphaaGreat
