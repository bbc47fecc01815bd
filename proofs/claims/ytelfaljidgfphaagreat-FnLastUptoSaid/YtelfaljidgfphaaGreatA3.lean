/-
  What this seat's proofs read: slices of integers, of bools, of slices of integers, of declarations; and closed facts of the program.
-/
import Derived.Test.YtelfaljidgfphaaGreatA2
import Derived.Test.YtelfaljidgfphaaGreatP1
import Derived.Deep.QuietTactic
import Derived.BigQuiet
import Derived.Deep.LoopGhost
import Derived.Deep.CutRange
import Derived.Deep.CutBlock
import Derived.Lib.Hide
namespace Go.Proofs.YtelfaljidgfphaaGreat
open Go.RowKit

def intV (x : Int) : Value := .int .i64 x

/-- A slice of integers that is read. -/
def Ints (w : World) (ok : Nat → Prop) (v : Value) (l : List Int) : Prop := Arr w ok v l.length 1 (l.map intV)
/-- A slice of bools that is read. -/
def Bools (w : World) (ok : Nat → Prop) (v : Value) (l : List Bool) : Prop := Arr w ok v l.length 1 (l.map Value.bool)
/-- A slice of slices of integers that is read. -/
def Lists (w : World) (ok : Nat → Prop) (v : Value) (l : List (List Int)) : Prop :=
  ∃ vs : List Value, vs.length = l.length ∧ Arr w ok v l.length 1 vs ∧ ∀ (i : Nat) (x : List Int) (u : Value), l[i]? = some x → vs[i]? = some u → Ints w ok u x

/-- The cells of a list of declarations; the slices of their references stand in vs. -/
def itCells : List It → List Value → List Value
  | x :: xs, v :: vs => intV x.kind :: intV x.many :: v :: itCells xs vs
  | _, _ => []

/-- A slice of declarations that is read. -/
def Its (w : World) (ok : Nat → Prop) (v : Value) (l : List It) : Prop :=
  ∃ vs : List Value, vs.length = l.length ∧ Arr w ok v l.length 3 (itCells l vs) ∧ ∀ (i : Nat) (x : It) (u : Value), l[i]? = some x → vs[i]? = some u → Ints w ok u x.refs

theorem itCells_at : ∀ (l : List It) (vs : List Value), vs.length = l.length → ∀ (i : Nat) (x : It) (u : Value), l[i]? = some x → vs[i]? = some u →
    (itCells l vs)[i * 3]? = some (intV x.kind) ∧ (itCells l vs)[i * 3 + 1]? = some (intV x.many) ∧ (itCells l vs)[i * 3 + 2]? = some u
  | [], _, _, i, x, u, h, _ => by simp at h
  | y :: l, [], hl, i, x, u, h, _ => by simp at hl
  | y :: l, v :: vs, hl, 0, x, u, h, h' => by simp at h h'; subst h; subst h'; simp [itCells]
  | y :: l, v :: vs, hl, i + 1, x, u, h, h' => by
    have := itCells_at l vs (by simpa using hl) i x u (by simpa using h) (by simpa using h')
    have e : (i + 1) * 3 = i * 3 + 3 := by omega
    rw [e]
    simpa [itCells] using this

theorem itCells_length : ∀ (l : List It) (vs : List Value), vs.length = l.length → (itCells l vs).length = l.length * 3
  | [], vs, _ => by simp [itCells]
  | x :: l, [], h => by simp at h
  | x :: l, v :: vs, h => by
    have := itCells_length l vs (by simpa using h)
    simp only [itCells, List.length_cons, this]
    omega

section
variable {w w' : World} {ok ok' S : Nat → Prop} {v : Value}

theorem Ints.fr {l : List Int} (h : Ints w ok v l) (hf : Fr S w w') (hs : ∀ b, ok b → ¬ S b) : Ints w' ok v l := Arr.fr h hf hs
theorem Bools.fr {l : List Bool} (h : Bools w ok v l) (hf : Fr S w w') (hs : ∀ b, ok b → ¬ S b) : Bools w' ok v l := Arr.fr h hf hs
theorem Lists.fr {l : List (List Int)} (h : Lists w ok v l) (hf : Fr S w w') (hs : ∀ b, ok b → ¬ S b) : Lists w' ok v l := by
  obtain ⟨vs, h1, h2, h3⟩ := h
  exact ⟨vs, h1, h2.fr hf hs, fun i x u hx hu => (h3 i x u hx hu).fr hf hs⟩
theorem Its.fr {l : List It} (h : Its w ok v l) (hf : Fr S w w') (hs : ∀ b, ok b → ¬ S b) : Its w' ok v l := by
  obtain ⟨vs, h1, h2, h3⟩ := h
  exact ⟨vs, h1, h2.fr hf hs, fun i x u hx hu => (h3 i x u hx hu).fr hf hs⟩
theorem Ints.mono {l : List Int} (h : Ints w ok v l) (hk : ∀ b, b < w.heap.size → ok b → ok' b) : Ints w ok' v l := Arr.mono h hk
theorem Bools.mono {l : List Bool} (h : Bools w ok v l) (hk : ∀ b, b < w.heap.size → ok b → ok' b) : Bools w ok' v l := Arr.mono h hk
theorem Lists.mono {l : List (List Int)} (h : Lists w ok v l) (hk : ∀ b, b < w.heap.size → ok b → ok' b) : Lists w ok' v l := by
  obtain ⟨vs, h1, h2, h3⟩ := h
  exact ⟨vs, h1, h2.mono hk, fun i x u hx hu => (h3 i x u hx hu).mono hk⟩
theorem Its.mono {l : List It} (h : Its w ok v l) (hk : ∀ b, b < w.heap.size → ok b → ok' b) : Its w ok' v l := by
  obtain ⟨vs, h1, h2, h3⟩ := h
  exact ⟨vs, h1, h2.mono hk, fun i x u hx hu => (h3 i x u hx hu).mono hk⟩

/-- The value of a slice: its length. -/
theorem Arr.val {n sz : Nat} {cs : List Value} (h : Arr w ok v n sz cs) : ∃ A c, v = .slice A n c := by
  obtain ⟨_, A, c, h2, _⟩ := h
  exact ⟨A, c, h2⟩

/-- What is read of it stands, whatever was drawn, laid anew, or written into other blocks. -/
theorem Arr.cells {n sz : Nat} {cs : List Value} {A : Option Addr} {c : Nat} (h : Arr w ok (.slice A n c) n sz cs) (hn : 0 < n) :
    ∃ b o, A = some ⟨b, o, none⟩ ∧ ok b ∧ b < w.heap.size ∧ ∀ j u, cs[j]? = some u → w.cell? ⟨b, o + j, none⟩ = some u := by
  obtain ⟨b, o, c', he, _, h1, h2, h3⟩ := h.at_ hn
  simp only [Value.slice.injEq, true_and] at he
  exact ⟨b, o, he.1, h1, h2, h3⟩
end

/-! ### What a call leaves -/
/-- Nothing that was there has turned. -/
def Gr (w w' : World) : Prop := Fr (fun _ => False) w w'
/-- A call returns a value, of which R holds in the world behind it. -/
def PVal (R : Value → World → Prop) (e : Ending) (w' : World) : Prop := ∃ v, e = .returned v ∧ R v w'

theorem Gr.refl (w : World) : Gr w w := Fr.refl _ w
theorem Gr.trans {a b c : World} (h : Gr a b) (k : Gr b c) : Gr a c := Fr.trans h k
theorem Gr.alloc {a w : World} (h : Gr a w) (o : Obj) : Gr a (w.alloc o) := Fr.alloc h o
theorem Gr.drew {a w : World} (h : Gr a w) : Gr a w.drew := Fr.drew h
theorem Gr.drewN {a w : World} (h : Gr a w) (n : Nat) : Gr a (w.drewN n) := Fr.trans h ⟨rfl, rfl, rfl, Nat.le_refl _, fun _ _ _ => rfl⟩
theorem Gr.below {a w : World} (h : Gr a w) : Below a.heap.size a w := Fr.below h (Nat.le_refl _) (fun _ hf => hf.elim)
theorem Gr.size {a w : World} (h : Gr a w) : a.heap.size ≤ w.heap.size := Fr.size h
/-- A step that turns none but blocks that were laid since. -/
theorem Gr.step {a w w' : World} {S : Nat → Prop} (h : Gr a w) (k : Fr S w w') (hs : ∀ b, S b → a.heap.size ≤ b) : Gr a w' :=
  ⟨k.os.trans h.os, k.tape.trans h.tape, k.output.trans h.output, Nat.le_trans h.size k.size, fun i hi _ =>
    (k.block i (Nat.lt_of_lt_of_le hi h.size) (fun hc => by have := hs i hc; omega)).trans (h.block i hi id)⟩
theorem Gr.cell {a w : World} (h : Gr a w) {p : Addr} {v : Value} (hc : a.cell? p = some v) : w.cell? p = some v := Fr.cell h hc id

section
variable {w w' : World} {ok ok' S : Nat → Prop} {v : Value}
theorem Ints.gr {l : List Int} (h : Ints w ok v l) (hf : Gr w w') : Ints w' ok v l := Ints.fr h hf (fun _ _ => id)
theorem Bools.gr {l : List Bool} (h : Bools w ok v l) (hf : Gr w w') : Bools w' ok v l := Bools.fr h hf (fun _ _ => id)
theorem Lists.gr {l : List (List Int)} (h : Lists w ok v l) (hf : Gr w w') : Lists w' ok v l := Lists.fr h hf (fun _ _ => id)
theorem Its.gr {l : List It} (h : Its w ok v l) (hf : Gr w w') : Its w' ok v l := Its.fr h hf (fun _ _ => id)

theorem Ints.val {l : List Int} (h : Ints w ok v l) : ∃ A c, v = .slice A l.length c := Arr.val h

/-- The declaration at a place, as it is read. -/
theorem Its.at_ {p : List It} {A : Option Addr} {n c k : Nat} (h : Its w ok (.slice A n c) p) (hk : k < p.length) :
    ∃ b o A' c', A = some ⟨b, o, none⟩ ∧ ok b ∧ b < w.heap.size ∧ w.cell? ⟨b, o + k * 3, none⟩ = some (.int .i64 (it p k).kind) ∧ w.cell? ⟨b, o + k * 3 + 1, none⟩ = some (.int .i64 (it p k).many) ∧
      w.cell? ⟨b, o + k * 3 + 2, none⟩ = some (.slice A' (it p k).refs.length c') ∧ Ints w ok (.slice A' (it p k).refs.length c') (it p k).refs := by
  obtain ⟨vs, hvl, harr, hrefs⟩ := h
  have hn : 0 < p.length := by omega
  obtain ⟨b, o, c0, he, _, hokb, hbl, hc⟩ := harr.at_ hn
  obtain ⟨u, hu⟩ := get_lt (l := vs) (k := k) (by omega)
  obtain ⟨h0, h1, h2⟩ := itCells_at p vs hvl k _ u (it_get hk) hu
  have hi := hrefs k _ u (it_get hk) hu
  obtain ⟨A', c', rfl⟩ := hi.val
  simp only [Value.slice.injEq] at he
  exact ⟨b, o, A', c', he.1, hokb, hbl, hc _ _ h0, hc _ _ h1, hc _ _ h2, hi⟩

theorem Its.len {p : List It} {A : Option Addr} {n c : Nat} (h : Its w ok (.slice A n c) p) : n = p.length := by
  obtain ⟨vs, hvl, ⟨_, A', c', he, _⟩, _⟩ := h
  simp only [Value.slice.injEq] at he
  exact he.2.1

/-- The number at a place, as it is read. -/
theorem Ints.at_ {l : List Int} {A : Option Addr} {n c k : Nat} (h : Ints w ok (.slice A n c) l) (hk : k < l.length) :
    ∃ b o, A = some ⟨b, o, none⟩ ∧ ok b ∧ b < w.heap.size ∧ ∀ x, l[k]? = some x → w.cell? ⟨b, o + k, none⟩ = some (.int .i64 x) := by
  obtain ⟨b, o, c0, he, _, hokb, hbl, hc⟩ := Arr.at_ h (by omega)
  simp only [Value.slice.injEq] at he
  exact ⟨b, o, he.1, hokb, hbl, fun x hx => hc k _ (by simp [hx, intV])⟩

theorem Bools.at_ {l : List Bool} {A : Option Addr} {n c k : Nat} (h : Bools w ok (.slice A n c) l) (hk : k < l.length) :
    ∃ b o, A = some ⟨b, o, none⟩ ∧ ok b ∧ b < w.heap.size ∧ ∀ x, l[k]? = some x → w.cell? ⟨b, o + k, none⟩ = some (.bool x) := by
  obtain ⟨b, o, c0, he, _, hokb, hbl, hc⟩ := Arr.at_ h (by omega)
  simp only [Value.slice.injEq] at he
  exact ⟨b, o, he.1, hokb, hbl, fun x hx => hc k _ (by simp [hx])⟩

/-- The list at a place, as it is read. -/
theorem Lists.at_ {l : List (List Int)} {A : Option Addr} {n c k : Nat} (h : Lists w ok (.slice A n c) l) (hk : k < l.length) :
    ∃ b o, A = some ⟨b, o, none⟩ ∧ ok b ∧ b < w.heap.size ∧ ∀ x, l[k]? = some x → ∃ A' c', w.cell? ⟨b, o + k, none⟩ = some (.slice A' x.length c') ∧ Ints w ok (.slice A' x.length c') x := by
  obtain ⟨vs, hvl, harr, hrefs⟩ := h
  obtain ⟨b, o, c0, he, _, hokb, hbl, hc⟩ := harr.at_ (by omega)
  simp only [Value.slice.injEq] at he
  refine ⟨b, o, he.1, hokb, hbl, fun x hx => ?_⟩
  obtain ⟨u, hu⟩ := get_lt (l := vs) (k := k) (by omega)
  have hi := hrefs k _ u hx hu
  obtain ⟨A', c', rfl⟩ := hi.val
  exact ⟨A', c', hc k _ hu, hi⟩
end

/-- One cell that the call has just laid, as a slice of one element. -/
theorem arr_one (w : World) (x : Value) (e : Nat) : Arr (w.alloc (.cells #[x] e)) (fun _ => True) (.slice (some ⟨w.heap.size, 0, none⟩) 1 1) 1 1 [x] :=
  ⟨rfl, _, _, rfl, Nat.le_refl _, .inr ⟨w.heap.size, 0, rfl, trivial, by simp, fun j u hu => by
    rw [cell_row (heap_alloc_new w _)]
    cases j with
    | zero => simpa using hu
    | succ j => simp at hu⟩⟩
theorem arr_three (w : World) (x y z : Value) (e : Nat) : Arr (w.alloc (.cells #[x, y, z] e)) (fun _ => True) (.slice (some ⟨w.heap.size, 0, none⟩) 1 1) 1 3 [x, y, z] :=
  ⟨rfl, _, _, rfl, Nat.le_refl _, .inr ⟨w.heap.size, 0, rfl, trivial, by simp, fun j u hu => by
    rw [cell_row (heap_alloc_new w _)]
    simpa using hu⟩⟩
theorem Own.alloc {w : World} {ok : Nat → Prop} {e sz n : Nat} {v : Value} {cs : List Value} (h : Own w ok e sz v n cs) (o : Obj) : Own (w.alloc o) ok e sz v n cs :=
  h.fr (S := fun _ => False) ((Fr.refl _ w).alloc o) (fun _ _ => id)
theorem Own.gr {w w' : World} {ok : Nat → Prop} {e sz n : Nat} {v : Value} {cs : List Value} (h : Own w ok e sz v n cs) (hg : Gr w w') : Own w' ok e sz v n cs :=
  h.fr hg (fun _ _ => id)
theorem Own.val {w : World} {ok : Nat → Prop} {e sz n : Nat} {v : Value} {cs : List Value} (h : Own w ok e sz v n cs) : ∃ A c, v = .slice A n c := h.arr.val

/-! ### Appends of one element -/
/-- A builtin append whose run is known. -/
theorem wpList_appended {P : Program} {w : World} {ops : Array Oper} {rest : List Oper} {o : Oper} {a : Act} {Q : Exit → Act → World → Prop} (hgd : o.guard = none) (s x : Operand) (t t' : TypeId)
    (ho : o.op = .call { callee := .builtin .append, args := #[s, x], argTypes := #[t, t'] }) {v xv v2 : Value} {w2 : World} (hs : a.eval s = v) (hx : a.eval x = xv)
    (hrun : Hid ((Builtin.append_ #[t, t'] o.type #[v, xv]).run P w = .ok v2 w2)) (h : wpList P ops Q rest (a.put o.dst v2) w2) : wpList P ops Q (o :: rest) a w :=
  wpList_plain hgd fun _ hK => by
    unfold Oper.wp execOp
    simp only [ho, resolve, invoke, builtin, Sem.run_bind, Sem.run_pure, Result.andThen_ok, List.map_toArray, List.map_cons, List.map_nil, hs, hx, hrun.out]
    exact hK _ _ h

theorem blk_ge {w : World} {B e sz n : Nat} {v : Value} {cs : List Value} (h : Own w (fun b => B ≤ b) e sz v n cs) : ∀ b, v.ownBlock = some b → B ≤ b := fun b hb => (h.blk b hb).1

/-- append(v, x), x of one cell -/
theorem app1 {P : Program} {e t ty : TypeId} {z : Value} {bytes : Nat} (E : ElemOk P e z 1 bytes) (ht : P.underlying t = some (.slice e)) {w : World} {B n : Nat} {v : Value} {cs : List Value}
    (hown : Own w (fun b => B ≤ b) e 1 v n cs) (x : Value) (hx : x.oneCell' = true) (hB : B ≤ w.heap.size) (hn : n ≤ 1099511627776) (hb : bytes ≤ 64) :
    ∃ v' w', Hid ((Builtin.append_ #[t, t] ty #[v, .slice (some ⟨w.heap.size, 0, none⟩) 1 1]).run P (w.alloc (.cells #[x] e)) = .ok v' w') ∧ Own w' (fun b => B ≤ b) e 1 v' (n + 1) (cs ++ [x]) ∧
      Fr (fun k => v.ownBlock = some k) w w' ∧ Fr (fun k => B ≤ k) w w' ∧ (∀ k, v'.ownBlock = some k → v.ownBlock = some k ∨ w.heap.size ≤ k) ∧ v' ≠ .slice none 0 0 := by
  obtain ⟨v', w', h1, h2, h3, h4, h5⟩ := run_append (P := P) (ty := ty) E ht ht (hown.alloc (.cells #[x] e)) (arr_one w x e) (by simpa using hx) (by simp only [maxLen]; omega)
    (by have : (n + 1) * bytes ≤ (n + 1) * 64 := Nat.mul_le_mul_left _ hb
        omega) (fun b hb => by simp at hb; omega)
  have h3' : Fr (fun k => v.ownBlock = some k) w w' := Fr.trans ((Fr.refl _ w).alloc _) h3
  exact ⟨v', w', h1, h2, h3', h3'.mono (fun k _ hk => blk_ge hown k hk), fun k hk => (h5 k hk).imp id (fun h => by simp at h; omega), fun e => by have := (h4.1 e).2; omega⟩

/-- append(v, x), x of three cells -/
theorem app3 {P : Program} {e t ty : TypeId} {z : Value} {bytes : Nat} (E : ElemOk P e z 3 bytes) (ht : P.underlying t = some (.slice e)) {w : World} {B n : Nat} {v : Value} {cs : List Value}
    (hown : Own w (fun b => B ≤ b) e 3 v n cs) (x y z' : Value) (hx : x.oneCell' = true) (hy : y.oneCell' = true) (hz : z'.oneCell' = true) (hB : B ≤ w.heap.size) (hn : n ≤ 1099511627776) (hb : bytes ≤ 64) :
    ∃ v' w', Hid ((Builtin.append_ #[t, t] ty #[v, .slice (some ⟨w.heap.size, 0, none⟩) 1 1]).run P (w.alloc (.cells #[x, y, z'] e)) = .ok v' w') ∧ Own w' (fun b => B ≤ b) e 3 v' (n + 1) (cs ++ [x, y, z']) ∧
      Fr (fun k => v.ownBlock = some k) w w' ∧ Fr (fun k => B ≤ k) w w' ∧ (∀ k, v'.ownBlock = some k → v.ownBlock = some k ∨ w.heap.size ≤ k) ∧ v' ≠ .slice none 0 0 := by
  obtain ⟨v', w', h1, h2, h3, h4, h5⟩ := run_append (P := P) (ty := ty) E ht ht (hown.alloc (.cells #[x, y, z'] e)) (arr_three w x y z' e) (by simp [hx, hy, hz]) (by simp only [maxLen]; omega)
    (by have : (n + 1) * bytes ≤ (n + 1) * 64 := Nat.mul_le_mul_left _ hb
        omega) (fun b hb => by simp at hb; omega)
  have h3' : Fr (fun k => v.ownBlock = some k) w w' := Fr.trans ((Fr.refl _ w).alloc _) h3
  exact ⟨v', w', h1, h2, h3', h3'.mono (fun k _ hk => blk_ge hown k hk), fun k hk => (h5 k hk).imp id (fun h => by simp at h; omega), fun e => by have := (h4.1 e).2; omega⟩

theorem Gr.own {w w1 w2 : World} {B : Nat} (h : Gr w w1) (k : Fr (fun b => B ≤ b) w1 w2) (hB : w.heap.size ≤ B) : Gr w w2 := h.step k (fun _ hb => Nat.le_trans hB hb)

/-! ### Closed facts -/
theorem und3 : Tryz.prog.underlying 3 = some (.int .i64) := by kernel_rfl
theorem info3 : (Tryz.prog.info? 3).map (fun i => (i.zero, i.size, i.bytes)) = some (some (.int .i64 0), 1, 8) := by kernel_rfl
theorem info29 : (Tryz.prog.info? 29).map (fun i => (i.zero, i.size, i.bytes)) = some (some (.slice none 0 0), 1, 24) := by kernel_rfl
theorem info47 : (Tryz.prog.info? 47).map (fun i => (i.zero, i.size, i.bytes)) = some (some (.agg #[.int .i64 0, .int .i64 0, .slice none 0 0]), 3, 40) := by kernel_rfl
theorem info55 : (Tryz.prog.info? 55).map (fun i => (i.zero, i.size, i.bytes)) = some (some (.agg #[.int .i64 0, .int .i64 0, .slice none 0 0]), 3, 40) := by kernel_rfl
theorem elem3 : ElemOk Tryz.prog 3 (.int .i64 0) 1 8 := ElemOk.mk' info3 rfl (by decide)
theorem elem29 : ElemOk Tryz.prog 29 (.slice none 0 0) 1 24 := ElemOk.mk' info29 rfl (by decide)
theorem elem47 : ElemOk Tryz.prog 47 (.agg #[.int .i64 0, .int .i64 0, .slice none 0 0]) 3 40 := ElemOk.mk' info47 rfl (by decide)
theorem elem55 : ElemOk Tryz.prog 55 (.agg #[.int .i64 0, .int .i64 0, .slice none 0 0]) 3 40 := ElemOk.mk' info55 rfl (by decide)

end Go.Proofs.YtelfaljidgfphaaGreat
