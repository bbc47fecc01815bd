/-
  Slices of slices, and slices of declarations, that a call builds by append.
-/
import Derived.Test.YtelfaljidgfphaaGreatB1
namespace Go.Proofs.YtelfaljidgfphaaGreat
open Go.RowKit

/-- A slice of slices of integers of the call's own (from block B on); what its elements read lies elsewhere. -/
def OwnLists (w : World) (B : Nat) (v : Value) (l : List (List Int)) : Prop :=
  ∃ vs : List Value, vs.length = l.length ∧ Own w (fun b => B ≤ b) 29 1 v l.length vs ∧ ∀ (i : Nat) (x : List Int) (u : Value), l[i]? = some x → vs[i]? = some u → Ints w (fun b => v.ownBlock ≠ some b) u x

/-- A slice of declarations of the call's own (from block B on), its elements of type e; what its elements read lies elsewhere. -/
def OwnIts (w : World) (B e : Nat) (v : Value) (l : List It) : Prop :=
  ∃ vs : List Value, vs.length = l.length ∧ Own w (fun b => B ≤ b) e 3 v l.length (itCells l vs) ∧ ∀ (i : Nat) (x : It) (u : Value), l[i]? = some x → vs[i]? = some u → Ints w (fun b => v.ownBlock ≠ some b) u x.refs

section
variable {w w' : World} {B e : Nat} {v v' : Value}

theorem OwnLists.nil (w : World) (B : Nat) : OwnLists w B (.slice none 0 0) [] := ⟨[], rfl, Own.nil _ _ _ _, fun i x u h => by simp at h⟩
theorem OwnIts.nil (w : World) (B e : Nat) : OwnIts w B e (.slice none 0 0) [] := ⟨[], rfl, Own.nil _ _ _ _, fun i x u h => by simp at h⟩

theorem OwnLists.gr {l : List (List Int)} (h : OwnLists w B v l) (hg : Gr w w') : OwnLists w' B v l := by
  obtain ⟨vs, h1, h2, h3⟩ := h
  exact ⟨vs, h1, h2.gr hg, fun i x u hx hu => (h3 i x u hx hu).gr hg⟩
theorem OwnIts.gr {l : List It} (h : OwnIts w B e v l) (hg : Gr w w') : OwnIts w' B e v l := by
  obtain ⟨vs, h1, h2, h3⟩ := h
  exact ⟨vs, h1, h2.gr hg, fun i x u hx hu => (h3 i x u hx hu).gr hg⟩

theorem OwnLists.lists {l : List (List Int)} (h : OwnLists w B v l) : Lists w (fun _ => True) v l := by
  obtain ⟨vs, h1, h2, h3⟩ := h
  exact ⟨vs, h1, h2.arr.mono (fun _ _ _ => trivial), fun i x u hx hu => (h3 i x u hx hu).mono (fun _ _ _ => trivial)⟩
theorem OwnIts.its {l : List It} (h : OwnIts w B e v l) : Its w (fun _ => True) v l := by
  obtain ⟨vs, h1, h2, h3⟩ := h
  exact ⟨vs, h1, h2.arr.mono (fun _ _ _ => trivial), fun i x u hx hu => (h3 i x u hx hu).mono (fun _ _ _ => trivial)⟩

theorem itCells_snoc : ∀ (l : List It) (vs : List Value) (x : It) (u : Value), vs.length = l.length → itCells (l ++ [x]) (vs ++ [u]) = itCells l vs ++ [intV x.kind, intV x.many, u]
  | [], [], x, u, _ => by simp [itCells]
  | [], _ :: _, x, u, h => by simp at h
  | _ :: _, [], x, u, h => by simp at h
  | y :: l, v :: vs, x, u, h => by simp [itCells, itCells_snoc l vs x u (by simpa using h)]

theorem ptw_snoc {α : Type} {R : α → Value → Prop} {l : List α} {vs : List Value} (hl : vs.length = l.length) {x : α} {u : Value} (h : ∀ (i : Nat) (y : α) (z : Value), l[i]? = some y → vs[i]? = some z → R y z) (hx : R x u) :
    ∀ (i : Nat) (y : α) (z : Value), (l ++ [x])[i]? = some y → (vs ++ [u])[i]? = some z → R y z := by
  intro i y z hy hz
  by_cases hi : i < l.length
  · rw [List.getElem?_append_left hi] at hy
    rw [List.getElem?_append_left (by omega)] at hz
    exact h i y z hy hz
  · rw [List.getElem?_append_right (by omega)] at hy
    rw [List.getElem?_append_right (by omega)] at hz
    have e1 : i - l.length = 0 := by
      cases hh : i - l.length with
      | zero => rfl
      | succ m => rw [hh] at hy; simp at hy
    have e2 : i - vs.length = 0 := by omega
    rw [e1] at hy; rw [e2] at hz
    simp at hy hz
    subst hy; subst hz
    exact hx

/-- One list more. -/
theorem OwnLists.push {l : List (List Int)} (h : OwnLists w B v l) {x : List Int} {u : Value} (hu : Ints w (fun b => v.ownBlock ≠ some b) u x) {t ty : Nat} (ht : Tryz.prog.underlying t = some (.slice 29)) (hB : B ≤ w.heap.size) (hn : l.length ≤ 1099511627776) :
    ∃ v' w', Hid ((Builtin.append_ #[t, t] ty #[v, .slice (some ⟨w.heap.size, 0, none⟩) 1 1]).run Tryz.prog (w.alloc (.cells #[u] 29)) = .ok v' w') ∧ OwnLists w' B v' (l ++ [x]) ∧ Fr (fun b => B ≤ b) w w' ∧ v' ≠ .slice none 0 0 := by
  obtain ⟨vs, h1, h2, h3⟩ := h
  obtain ⟨A, c, rfl⟩ := hu.val
  obtain ⟨v', w', Hr, hown, hf1, hf2, hblk, hne⟩ := app1 (P := Tryz.prog) (t := t) (ty := ty) elem29 ht h2 (.slice A x.length c) rfl hB hn (by omega)
  refine ⟨v', w', Hr, ⟨vs ++ [.slice A x.length c], by simp [h1], by simpa using hown, ?_⟩, hf2, hne⟩
  refine ptw_snoc (R := fun y z => Ints w' (fun b => v'.ownBlock ≠ some b) z y) h1 (fun i y z hy hz => ?_) ?_
  · have h4 := (h3 i y z hy hz).mono (ok' := fun b => v.ownBlock ≠ some b ∧ v'.ownBlock ≠ some b) (fun b hb hok => ⟨hok, fun e => by rcases hblk b e with h | h <;> first | exact hok h | omega⟩)
    exact (h4.fr hf1 (fun b hb => hb.1)).mono (fun b _ hb => hb.2)
  · have h4 := hu.mono (ok' := fun b => v.ownBlock ≠ some b ∧ v'.ownBlock ≠ some b) (fun b hb hok => ⟨hok, fun e => by rcases hblk b e with h | h <;> first | exact hok h | omega⟩)
    exact (h4.fr hf1 (fun b hb => hb.1)).mono (fun b _ hb => hb.2)

/-- One declaration more. -/
theorem OwnIts.push {l : List It} (h : OwnIts w B e v l) {x : It} {A : Option Addr} {c : Nat} (hu : Ints w (fun b => v.ownBlock ≠ some b) (.slice A x.refs.length c) x.refs) {t ty bytes : Nat} {z : Value} (E : ElemOk Tryz.prog e z 3 bytes) (hb : bytes ≤ 64)
    (ht : Tryz.prog.underlying t = some (.slice e)) (hB : B ≤ w.heap.size) (hn : l.length ≤ 1099511627776) :
    ∃ v' w', Hid ((Builtin.append_ #[t, t] ty #[v, .slice (some ⟨w.heap.size, 0, none⟩) 1 1]).run Tryz.prog (w.alloc (.cells #[.int .i64 x.kind, .int .i64 x.many, .slice A x.refs.length c] e)) = .ok v' w') ∧ OwnIts w' B e v' (l ++ [x]) ∧ Fr (fun b => B ≤ b) w w' ∧ v' ≠ .slice none 0 0 := by
  obtain ⟨vs, h1, h2, h3⟩ := h
  obtain ⟨v', w', Hr, hown, hf1, hf2, hblk, hne⟩ := app3 (P := Tryz.prog) (t := t) (ty := ty) E ht h2 (.int .i64 x.kind) (.int .i64 x.many) (.slice A x.refs.length c) rfl rfl rfl hB hn hb
  refine ⟨v', w', Hr, ⟨vs ++ [.slice A x.refs.length c], by simp [h1], by rw [itCells_snoc _ _ _ _ h1]; simpa [intV] using hown, ?_⟩, hf2, hne⟩
  refine ptw_snoc (R := fun (y : It) z => Ints w' (fun b => v'.ownBlock ≠ some b) z y.refs) h1 (fun i y z hy hz => ?_) ?_
  · have h4 := (h3 i y z hy hz).mono (ok' := fun b => v.ownBlock ≠ some b ∧ v'.ownBlock ≠ some b) (fun b hb hok => ⟨hok, fun e => by rcases hblk b e with h | h <;> first | exact hok h | omega⟩)
    exact (h4.fr hf1 (fun b hb => hb.1)).mono (fun b _ hb => hb.2)
  · have h4 := hu.mono (ok' := fun b => v.ownBlock ≠ some b ∧ v'.ownBlock ≠ some b) (fun b hb hok => ⟨hok, fun e => by rcases hblk b e with h | h <;> first | exact hok h | omega⟩)
    exact (h4.fr hf1 (fun b hb => hb.1)).mono (fun b _ hb => hb.2)

/-- What was there when the call began is none of its own. -/
theorem Ints.away {w0 : World} {ok : Nat → Prop} {u : Value} {x : List Int} (h : Ints w0 ok u x) (hg : Gr w0 w) (hv : ∀ b, v.ownBlock = some b → w0.heap.size ≤ b) : Ints w (fun b => v.ownBlock ≠ some b) u x :=
  (h.mono (ok' := fun b => v.ownBlock ≠ some b) (fun b hb _ e => by have := hv b e; omega)).gr hg

theorem OwnLists.blk {l : List (List Int)} (h : OwnLists w B v l) : ∀ b, v.ownBlock = some b → B ≤ b := by
  obtain ⟨vs, h1, h2, h3⟩ := h
  exact blk_ge h2
theorem OwnIts.blk {l : List It} (h : OwnIts w B e v l) : ∀ b, v.ownBlock = some b → B ≤ b := by
  obtain ⟨vs, h1, h2, h3⟩ := h
  exact blk_ge h2
theorem OwnLists.lt {l : List (List Int)} (h : OwnLists w B v l) : ∀ b, v.ownBlock = some b → b < w.heap.size := by
  obtain ⟨vs, h1, h2, h3⟩ := h
  exact fun b hb => (h2.blk b hb).2
end

theorem Own.ints {w : World} {ok : Nat → Prop} {e n : Nat} {v : Value} {l : List Int} (h : Own w ok e 1 v n (l.map intV)) : Ints w ok v l := by
  have := h.arr
  have hn : n = l.length := by have := this.1; simp at this; omega
  subst hn
  exact this
theorem Arr.cap {w : World} {ok : Nat → Prop} {n sz : Nat} {cs : List Value} {A : Option Addr} {n' c : Nat} (h : Arr w ok (.slice A n' c) n sz cs) : n' ≤ c := by
  obtain ⟨_, A', c', he, hc, _⟩ := h
  simp only [Value.slice.injEq] at he
  omega
theorem Its.cap {w : World} {ok : Nat → Prop} {A : Option Addr} {n c : Nat} {p : List It} (h : Its w ok (.slice A n c) p) : n ≤ c := by
  obtain ⟨vs, _, h2, _⟩ := h
  exact h2.cap
theorem Its.val {w : World} {ok : Nat → Prop} {v : Value} {p : List It} (h : Its w ok v p) : ∃ A c, v = .slice A p.length c := by
  obtain ⟨vs, _, h2, _⟩ := h
  exact h2.val
theorem Lists.val {w : World} {ok : Nat → Prop} {v : Value} {p : List (List Int)} (h : Lists w ok v p) : ∃ A c, v = .slice A p.length c := by
  obtain ⟨vs, _, h2, _⟩ := h
  exact h2.val
theorem Bools.val {w : World} {ok : Nat → Prop} {v : Value} {p : List Bool} (h : Bools w ok v p) : ∃ A c, v = .slice A p.length c := Arr.val h
theorem Ints.cap {w : World} {ok : Nat → Prop} {A : Option Addr} {n c : Nat} {p : List Int} (h : Ints w ok (.slice A n c) p) : n ≤ c := Arr.cap h
theorem Ints.len {w : World} {ok : Nat → Prop} {A : Option Addr} {n c : Nat} {p : List Int} (h : Ints w ok (.slice A n c) p) : n = p.length := by
  obtain ⟨_, A', c', he, hc, _⟩ := h
  simp only [Value.slice.injEq] at he
  omega
end Go.Proofs.YtelfaljidgfphaaGreat
