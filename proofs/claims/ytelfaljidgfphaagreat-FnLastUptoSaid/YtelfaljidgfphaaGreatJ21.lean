/-
  Functions are removed from a graph: what becomes of its edges, in plain Lean.
-/
import Derived.Test.YtelfaljidgfphaaGreatJ2
namespace Go.Proofs.YtelfaljidgfphaaGreat
open Go.RowKit

/-- x refers to y. -/
def E0 (p : List It) (x y : Nat) : Prop := (y : Int) ∈ (it p (own p x)).refs
/-- f is removed. -/
def stepE (E : Nat → Nat → Prop) (f : Nat) : Nat → Nat → Prop := fun x y => E x y ∨ (E x f ∧ E f y)
def EL (p : List It) (fs : List Nat) : Nat → Nat → Prop := fs.foldl stepE (E0 p)
theorem EL_snoc (p : List It) (fs : List Nat) (f : Nat) : EL p (fs ++ [f]) = stepE (EL p fs) f := by simp [EL]

/-- The edges of the graph without those of dead. -/
structure Inv (n : Nat) (dead : List Nat) (E : Nat → Nat → Prop) (ks : Bool → Nat → List Nat) : Prop where
  succ : ∀ x y, x < n → y < n → x ∉ dead → y ∉ dead → (y ∈ ks true x ↔ E x y)
  pred : ∀ x y, x < n → y < n → x ∉ dead → y ∉ dead → (x ∈ ks false y ↔ E x y)
  live : ∀ c x y, x < n → x ∉ dead → y ∈ ks c x → y < n ∧ y ∉ dead

/-- f is being removed: those of V have lost f; the pairs of W have been added. -/
structure Kst (n : Nat) (ks0 : Bool → Nat → List Nat) (f : Nat) (V : Nat → Prop) (W : Nat → Nat → Prop) (ks : Bool → Nat → List Nat) : Prop where
  s0 : ks true f = ks0 true f
  p0 : ks false f = ks0 false f
  succ : ∀ x y, x < n → (y ∈ ks true x ↔ (y ∈ ks0 true x ∧ ¬ (y = f ∧ V x)) ∨ W x y)
  pred : ∀ x y, y < n → (x ∈ ks false y ↔ x ∈ ks0 false y ∨ W x y)

def V6 (ks0 : Bool → Nat → List Nat) (f : Nat) (rem : List Nat) (x : Nat) : Prop := x ∈ ks0 false f ∧ x ∉ rem ∧ x ≠ f
def W6 (ks0 : Bool → Nat → List Nat) (f : Nat) (rem : List Nat) (x y : Nat) : Prop := V6 ks0 f rem x ∧ y ∈ ks0 true f ∧ y ≠ f
def W7 (ks0 : Bool → Nat → List Nat) (f : Nat) (rem : List Nat) (q : Nat) (rem7 : List Nat) (x y : Nat) : Prop := W6 ks0 f rem x y ∨ (x = q ∧ y ∈ ks0 true f ∧ y ∉ rem7 ∧ y ≠ f)

section
variable {n f : Nat} {ks0 ks : Bool → Nat → List Nat} {rem rem7 : List Nat} {q s : Nat}

theorem K6_start : Kst n ks0 f (V6 ks0 f (ks0 false f)) (W6 ks0 f (ks0 false f)) ks0 where
  s0 := rfl
  p0 := rfl
  succ x y _ := by unfold W6 V6; grind
  pred x y _ := by unfold W6 V6; grind

theorem V6_skip (hd : rem.Nodup) (x : Nat) : V6 ks0 f (rem.erase f) x ↔ V6 ks0 f rem x := by
  unfold V6
  rw [List.Nodup.mem_erase_iff hd]
  grind

theorem K6_skip (h : Kst n ks0 f (V6 ks0 f rem) (W6 ks0 f rem) ks) (hd : rem.Nodup) : Kst n ks0 f (V6 ks0 f (rem.erase f)) (W6 ks0 f (rem.erase f)) ks where
  s0 := h.s0
  p0 := h.p0
  succ x y hx := by rw [h.succ x y hx]; simp only [W6, V6_skip hd]
  pred x y hy := by rw [h.pred x y hy]; simp only [W6, V6_skip hd]

theorem K7_start (h : Kst n ks0 f (V6 ks0 f rem) (W6 ks0 f rem) ks) : Kst n ks0 f (V6 ks0 f rem) (W7 ks0 f rem q (ks0 true f)) ks where
  s0 := h.s0
  p0 := h.p0
  succ x y hx := by rw [h.succ x y hx]; unfold W7; grind
  pred x y hy := by rw [h.pred x y hy]; unfold W7; grind

theorem K7_skip (h : Kst n ks0 f (V6 ks0 f rem) (W7 ks0 f rem q rem7) ks) (hd : rem7.Nodup) : Kst n ks0 f (V6 ks0 f rem) (W7 ks0 f rem q (rem7.erase f)) ks where
  s0 := h.s0
  p0 := h.p0
  succ x y hx := by rw [h.succ x y hx]; simp only [W7, List.Nodup.mem_erase_iff hd]; grind
  pred x y hy := by rw [h.pred x y hy]; simp only [W7, List.Nodup.mem_erase_iff hd]; grind

theorem K7_add (h : Kst n ks0 f (V6 ks0 f rem) (W7 ks0 f rem q rem7) ks) (hd : rem7.Nodup) (hs0 : s ∈ ks0 true f) (hq : q ≠ f) (hsf : s ≠ f) :
    Kst n ks0 f (V6 ks0 f rem) (W7 ks0 f rem q (rem7.erase s)) (setKs (setKs ks true q (putKs (ks true q) s)) false s (putKs (setKs ks true q (putKs (ks true q) s) false s) q)) where
  s0 := by rw [← h.s0]; simp only [setKs]; rw [if_neg (by simp), if_neg (fun e => hq e.2.symm)]
  p0 := by rw [← h.p0]; simp only [setKs]; rw [if_neg (fun e => hsf e.2.symm), if_neg (by simp)]
  succ x y hx := by
    rw [mem_setKs_put, mem_setKs_put, h.succ x y hx]
    simp only [W7, List.Nodup.mem_erase_iff hd]
    grind
  pred x y hy := by
    rw [mem_setKs_put, mem_setKs_put, h.pred x y hy]
    simp only [W7, List.Nodup.mem_erase_iff hd]
    grind

theorem K7_end (h : Kst n ks0 f (V6 ks0 f rem) (W7 ks0 f rem q []) ks) (hd : rem.Nodup) (hq0 : q ∈ ks0 false f) (hq : q ≠ f) (hk : (ks true q).Nodup) :
    Kst n ks0 f (V6 ks0 f (rem.erase q)) (W6 ks0 f (rem.erase q)) (setKs ks true q ((ks true q).erase f)) where
  s0 := by rw [← h.s0]; simp only [setKs]; rw [if_neg (fun e => hq e.2.symm)]
  p0 := by rw [← h.p0]; simp only [setKs]; rw [if_neg (by simp)]
  succ x y hx := by
    rw [mem_setKs_del _ _ _ hk, h.succ x y hx]
    simp only [W7, W6, V6, List.Nodup.mem_erase_iff hd]
    grind
  pred x y hy := by
    rw [mem_setKs_del _ _ _ hk, h.pred x y hy]
    simp only [W7, W6, V6, List.Nodup.mem_erase_iff hd]
    grind
end

/-- Its own edges are being dropped. -/
structure K8 (n : Nat) (ks0 : Bool → Nat → List Nat) (f : Nat) (rem : List Nat) (ks : Bool → Nat → List Nat) : Prop where
  s0 : ks true f = ks0 true f
  succ : ∀ x y, x < n → (y ∈ ks true x ↔ (y ∈ ks0 true x ∧ ¬ (y = f ∧ V6 ks0 f [] x)) ∨ W6 ks0 f [] x y)
  pred : ∀ x y, y < n → (x ∈ ks false y ↔ (x ∈ ks0 false y ∨ W6 ks0 f [] x y) ∧ ¬ (x = f ∧ y ∈ ks0 true f ∧ y ∉ rem))

section
variable {n f : Nat} {ks0 ks : Bool → Nat → List Nat} {rem : List Nat} {s : Nat} {dead : List Nat} {E : Nat → Nat → Prop}

theorem K8_start (h : Kst n ks0 f (V6 ks0 f []) (W6 ks0 f []) ks) : K8 n ks0 f (ks0 true f) ks where
  s0 := h.s0
  succ := h.succ
  pred x y hy := by rw [h.pred x y hy]; grind

theorem K8_del (h : K8 n ks0 f rem ks) (hd : rem.Nodup) (hs0 : s ∈ ks0 true f) (hk : (ks false s).Nodup) : K8 n ks0 f (rem.erase s) (setKs ks false s ((ks false s).erase f)) where
  s0 := by rw [← h.s0]; simp only [setKs]; rw [if_neg (by simp)]
  succ x y hx := by rw [mem_setKs_del _ _ _ hk, h.succ x y hx]; grind
  pred x y hy := by
    rw [mem_setKs_del _ _ _ hk, h.pred x y hy]
    simp only [List.Nodup.mem_erase_iff hd]
    grind

theorem K8_end (h : K8 n ks0 f [] ks) (hi : Inv n dead E ks0) (hf : f < n) (hfd : f ∉ dead) : Inv n (dead ++ [f]) (stepE E f) ks where
  succ x y hx hy hxd hyd := by
    simp only [List.mem_append, List.mem_singleton, not_or] at hxd hyd
    rw [h.succ x y hx, hi.succ x y hx hy hxd.1 hyd.1]
    simp only [W6, V6, stepE]
    have h1 := hi.pred x f hx hf hxd.1 hfd
    have h2 := hi.succ f y hf hy hfd hyd.1
    grind
  pred x y hx hy hxd hyd := by
    simp only [List.mem_append, List.mem_singleton, not_or] at hxd hyd
    rw [h.pred x y hy, hi.pred x y hx hy hxd.1 hyd.1]
    simp only [W6, V6, stepE]
    have h1 := hi.pred x f hx hf hxd.1 hfd
    have h2 := hi.succ f y hf hy hfd hyd.1
    grind
  live c x y hx hxd hy := by
    simp only [List.mem_append, List.mem_singleton, not_or] at hxd ⊢
    cases c with
    | true =>
      rw [h.succ x y hx] at hy
      rcases hy with ⟨h1, h2⟩ | ⟨⟨h1, h2, h3⟩, h4, h5⟩
      · obtain ⟨h3, h4⟩ := hi.live true x y hx hxd.1 h1
        refine ⟨h3, h4, fun e => h2 ⟨e, ?_⟩⟩
        subst e
        exact ⟨(hi.pred x y hx hf hxd.1 hfd).2 ((hi.succ x y hx hf hxd.1 hfd).1 h1), by simp, hxd.2⟩
      · obtain ⟨h6, h7⟩ := hi.live true f y hf hfd h4
        exact ⟨h6, h7, h5⟩
    | false =>
      rw [h.pred y x hx] at hy
      obtain ⟨h1 | ⟨⟨h1, h2, h3⟩, h4, h5⟩, h0⟩ := hy
      · obtain ⟨h3, h4⟩ := hi.live false x y hx hxd.1 h1
        refine ⟨h3, h4, fun e => h0 ⟨e, ?_, by simp⟩⟩
        subst e
        exact (hi.succ y x hf hx hfd hxd.1).2 ((hi.pred y x hf hx hfd hxd.1).1 h1)
      · obtain ⟨h6, h7⟩ := hi.live false f y hf hfd h1
        exact ⟨h6, h7, h3⟩
end

/-! ### Ranging over a set -/
/-- Block it is an iterator over the set m (which may be nil): the nodes of rem are still to come. -/
def SIter (w : World) (it : Nat) (m : Option Nat) (enc : Nat → Value) (n : Nat) (l rem : List Nat) : Prop :=
  (m = none ∧ rem = [] ∧ w.heap[it]? = some (.mapIter none 0 #[] 0)) ∨ ∃ b, m = some b ∧ NIter w it b enc n l (fun _ => .bool true) rem

section
variable {B n : Nat} {ec : Nat → Value} {nd : Nat → Nat} {mb : Bool → Nat → Option Nat} {ks : Bool → Nat → List Nat} {ix dp : Nat → Int} {w w' : World} {it : Nat} {m : Option Nat} {enc : Nat → Value} {l rem : List Nat}

theorem Gs.range (h : Gs B n ec nd mb ks ix dp w) (c : Bool) {r : Nat} (hr : r < n) :
    ∃ o, (Instr.range 87 (.map (mb c r))).run Tryz.prog w = .ok (.pointer (some ⟨w.heap.size, 0, none⟩)) (w.alloc o) ∧ SIter (w.alloc o) w.heap.size (mb c r) (fun i => ptr (nd i)) n (ks c r) (ks c r) := by
  cases hm : mb c r with
  | none =>
    refine ⟨.mapIter none 0 #[] 0, ?_, .inl ⟨rfl, h.nil c r hr hm, heap_alloc_new w _⟩⟩
    simp only [Instr.range, Sem.run_bind, run_underlying Tryz.underlying87, Result.andThen_ok, run_newObj]
    rfl
  | some b =>
    obtain ⟨o, h1, h2⟩ := (h.set c r b hr hm).1.range Tryz.underlying87
    exact ⟨o, h1, .inr ⟨b, rfl, h2⟩⟩

theorem SIter.fr {S : Nat → Prop} (h : SIter w it m enc n l rem) (hf : Fr S w w') (hi : ¬ S it) (hm : ∀ b, m = some b → ¬ S b) : SIter w' it m enc n l rem := by
  rcases h with ⟨h1, h2, h3⟩ | ⟨b, h1, h2⟩
  · exact .inl ⟨h1, h2, hf.heap h3 hi⟩
  · exact .inr ⟨b, h1, h2.fr hf (hm b h1) hi⟩

theorem SIter.iter (h : SIter w it m enc n l rem) : ∃ a b c d, w.heap[it]? = some (.mapIter a b c d) := by
  rcases h with ⟨h1, h2, h3⟩ | ⟨b, h1, _, _, _, _, es, k, s, _, h3, _⟩
  · exact ⟨_, _, _, _, h3⟩
  · exact ⟨_, _, _, _, h3⟩
theorem SIter.sub (h : SIter w it m enc n l rem) : rem.Nodup ∧ ∀ k ∈ rem, k ∈ l ∧ k < n := by
  rcases h with ⟨h1, h2, h3⟩ | ⟨b, h1, h2⟩
  · subst h2; exact ⟨List.nodup_nil, fun k hk => by simp at hk⟩
  · exact ⟨h2.2.2.1, fun k hk => ⟨h2.2.2.2.1 k hk, h2.2.1 k (h2.2.2.2.1 k hk)⟩⟩

theorem SIter.next (h : SIter w it m enc n l rem) (ty : TypeId) :
    (rem = [] ∧ (Instr.next (.pointer (some ⟨it, 0, none⟩)) false ty).run Tryz.prog w = .ok (.tuple #[.bool false]) w) ∨
    ∃ k ∈ rem, ∃ w', (Instr.next (.pointer (some ⟨it, 0, none⟩)) false ty).run Tryz.prog w = .ok (.tuple #[.bool true, enc k, .bool true]) w' ∧
      (Instr.entry (.pointer (some ⟨it, 0, none⟩))).run Tryz.prog w' = .ok (.tuple #[enc k, .bool true]) w' ∧ SIter w' it m enc n l (rem.erase k) ∧ Fr (fun j => j = it) w w' ∧ w'.heap.size = w.heap.size := by
  rcases h with ⟨h1, h2, h3⟩ | ⟨b, h1, h2⟩
  · left
    refine ⟨h2, ?_⟩
    simp [Instr.next, getObj, Sem.run, h3]
  · rcases h2.next (P := Tryz.prog) ty with h4 | ⟨k, hk, w', h5, h6, h7, h8, h9⟩
    · exact .inl h4
    · exact .inr ⟨k, hk, w', h5, h6 Tryz.prog, .inr ⟨b, h1, h7⟩, h8, h9⟩

theorem Gs.atNe (h : Gs B n ec nd mb ks ix dp w) (hi : ∃ a b c d, w.heap[it]? = some (.mapIter a b c d)) {c : Bool} {r : Nat} (hr : r < n) : ¬ AtS nd mb c r it := by
  obtain ⟨a, b', c', d, h3⟩ := hi
  rintro (e | e)
  · have := h.node r hr
    rw [← e, h3] at this
    cases this
  · obtain ⟨⟨_, _, es', k', h4, _⟩, _⟩ := h.set c r it hr e
    rw [h3] at h4
    cases h4
theorem Gs.rowNe (h : Gs B n ec nd mb ks ix dp w) {b : Nat} (hb : ∃ cur, w.heap[b]? = some (.cells cur 83 (0, 0))) {c : Bool} {r : Nat} (hr : r < n) : ¬ AtS nd mb c r b := by
  obtain ⟨cur, hc⟩ := hb
  rintro (e | e)
  · exact ne_cells hc (h.node r hr) (by decide) e
  · exact (h.set c r b hr e).1.ne hc rfl
/-- A set is none of the blocks that a change of another set turns. -/
theorem Gs.setAt (h : Gs B n ec nd mb ks ix dp w) {b : Nat} {c c' : Bool} {r r' : Nat} (hr : r < n) (hr' : r' < n) (hb : mb c r = some b) (hne : ¬ (c = c' ∧ r = r')) : ¬ AtS nd mb c' r' b := by
  rintro (e | e)
  · exact h.setNe hr hr' hb e
  · exact hne (h.sep c r c' r' b hr hr' hb e)

/-- 'delete(node.set, k)' -/
theorem Gs.del (h : Gs B n ec nd mb ks ix dp w) (c : Bool) {r k : Nat} (hr : r < n) (hk : k < n) (hin : k ∈ ks c r) (ty : TypeId) (ts : Array TypeId) (has : ts[0]? = some 87) :
    ∃ w', (Builtin.delete_ ts ty #[.map (mb c r), ptr (nd k)]).run Tryz.prog w = .ok (.tuple #[]) w' ∧ Gs B n ec nd mb (setKs ks c r ((ks c r).erase k)) ix dp w' ∧ Fr (AtS nd mb c r) w w' ∧ w'.heap.size = w.heap.size := by
  cases hm : mb c r with
  | none => rw [h.nil c r hr hm] at hin; simp at hin
  | some b =>
    obtain ⟨w', h1, h2, h3, h4⟩ := (h.set c r b hr hm).1.del h.keyOk Tryz.underlying87 hk ty ts has
    exact ⟨w', h1, h.turn hr hm h3 h2, h3.mono (fun j _ e => .inr (by rw [e]; exact hm)), h4⟩

/-- 'p != q' -/
theorem Gs.neq (h : Gs B n ec nd mb ks ix dp w) {r s : Nat} (hr : r < n) (hs : s < n) : (binOp BinOp.neq 83 (ptr (nd r)) (ptr (nd s))).run Tryz.prog w = .ok (.bool (decide (r ≠ s))) w := by
  have h1 := h.keyOk.eq r s hr hs
  simp only [ptr] at h1 ⊢
  simp [binOp, h1]
theorem Gs.nodup (h : Gs B n ec nd mb ks ix dp w) (c : Bool) {r : Nat} (hr : r < n) : (ks c r).Nodup := by
  cases hm : mb c r with
  | none => rw [h.nil c r hr hm]; exact List.nodup_nil
  | some b => exact (h.set c r b hr hm).1.1
theorem Gs.ltN (h : Gs B n ec nd mb ks ix dp w) (c : Bool) {r k : Nat} (hr : r < n) (hk : k ∈ ks c r) : k < n := by
  cases hm : mb c r with
  | none => rw [h.nil c r hr hm] at hk; simp at hk
  | some b => exact (h.set c r b hr hm).1.2.1 k hk
end
end Go.Proofs.YtelfaljidgfphaaGreat
