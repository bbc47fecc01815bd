/-
  Plain definitions: declarations, their objects, which objects references lead to. No program in sight.
-/
namespace Go.Proofs.YtelfaljidgfphaaGreat

/-- A declaration. -/
structure It where
  kind : Int
  many : Int
  refs : List Int
deriving Repr, DecidableEq

/-- How many objects a declaration has. -/
def It.n (x : It) : Nat := if x.kind = 1 then x.many.toNat else 1
/-- Is it one of variables? -/
def It.var (x : It) : Bool := x.kind == 0 || x.kind == 1 || x.kind == 2

/-- The declarations of all objects, by their places; the first declaration's place is k. -/
def ownersFrom : Nat → List It → List Nat
  | _, [] => []
  | k, x :: p => List.replicate x.n k ++ ownersFrom (k + 1) p
def owners (p : List It) : List Nat := ownersFrom 0 p
/-- How many objects there are. -/
def cnt (p : List It) : Nat := (owners p).length
/-- The first object of a declaration. -/
def start (p : List It) (k : Nat) : Nat := cnt (p.take k)
/-- The declaration at a place. -/
def it (p : List It) (k : Nat) : It := p.getD k ⟨0, 0, []⟩
/-- The declaration of an object. -/
def own (p : List It) (r : Nat) : Nat := (owners p).getD r 0
/-- The objects of a declaration. -/
def objs (p : List It) (k : Nat) : List Nat := List.range' (start p k) (it p k).n
/-- Numbers as Go has them. -/
def ints (l : List Nat) : List Int := l.map fun (n : Nat) => (n : Int)

/-- Kinds are kinds, and groups have from 2 to 100 variables. -/
def KOk (p : List It) : Prop := ∀ x ∈ p, 0 ≤ x.kind ∧ x.kind < 5 ∧ (x.kind = 1 → 2 ≤ x.many ∧ x.many ≤ 100) ∧ (x.kind ≠ 1 → x.many = 0) ∧ (x.kind = 2 → x.refs = [])
/-- References are to objects. -/
def ROk (p : List It) : Prop := ∀ x ∈ p, ∀ r ∈ x.refs, 0 ≤ r ∧ r < (cnt p : Int)

/-- The objects to which references of a declaration lead: its own ones, and those of the declarations that are followed. -/
inductive Rch (p : List It) (f : It → Bool) (k : Nat) : Nat → Prop
  | ref {r : Nat} : (r : Int) ∈ (it p k).refs → Rch p f k r
  | step {r s : Nat} : Rch p f k r → f (it p (own p r)) = true → (s : Int) ∈ (it p (own p r)).refs → Rch p f k s

def fAll (_ : It) : Bool := true
def fFunc (x : It) : Bool := x.kind == 3
def fNoConst (x : It) : Bool := x.kind != 4

open Classical in
/-- 'reached', as marks of all objects. -/
noncomputable def reach (p : List It) (f : It → Bool) (k : Nat) : List Bool := (List.range (cnt p)).map fun r => decide (Rch p f k r)

open Classical in
noncomputable def needs (p : List It) (k : Nat) : List Bool := (List.range (cnt p)).map fun r => decide (Rch p fFunc k r) && (it p (own p r)).var
open Classical in
noncomputable def needsAll (p : List It) (k : Nat) : List Bool := (List.range (cnt p)).map fun r => decide (Rch p fNoConst k r) && (it p (own p r)).var

/-- Declarations of which the statements speak. -/
def Fit (p : List It) : Prop := p.length ≤ 1048576 ∧ KOk p ∧ ROk p ∧ ∀ k, k < p.length → (it p k).kind = 4 → ¬ Rch p fAll k (start p k)

/-! ### Small facts -/
theorem n_pos {p : List It} (h : KOk p) {x : It} (hx : x ∈ p) : 1 ≤ x.n ∧ x.n ≤ 100 := by
  obtain ⟨_, _, h1, _⟩ := h x hx
  unfold It.n
  split
  · rename_i hk
    have := h1 hk
    omega
  · omega

theorem ownersFrom_snoc (x : It) : ∀ (p : List It) (k : Nat), ownersFrom k (p ++ [x]) = ownersFrom k p ++ List.replicate x.n (k + p.length)
  | [], k => by simp [ownersFrom]
  | y :: p, k => by
    simp only [List.cons_append, ownersFrom, ownersFrom_snoc x p (k + 1), List.append_assoc, List.length_cons]
    rw [show k + 1 + p.length = k + (p.length + 1) by omega]

theorem ownersFrom_append : ∀ (p q : List It) (k : Nat), ownersFrom k (p ++ q) = ownersFrom k p ++ ownersFrom (k + p.length) q
  | [], q, k => by simp [ownersFrom]
  | y :: p, q, k => by
    simp only [List.cons_append, ownersFrom, ownersFrom_append p q (k + 1), List.append_assoc, List.length_cons]
    rw [show k + 1 + p.length = k + (p.length + 1) by omega]

theorem owners_take_succ {p : List It} {k : Nat} {x : It} (h : p[k]? = some x) : owners (p.take (k + 1)) = owners (p.take k) ++ List.replicate x.n k := by
  have hk : k < p.length := (List.getElem?_eq_some_iff.1 h).1
  rw [List.take_add_one, h, Option.toList_some]
  unfold owners
  rw [ownersFrom_snoc, List.length_take, Nat.min_eq_left (by omega)]
  simp

theorem start_succ {p : List It} {k : Nat} {x : It} (h : p[k]? = some x) : start p (k + 1) = start p k + x.n := by
  unfold start cnt
  rw [owners_take_succ h, List.length_append, List.length_replicate]

theorem it_of {p : List It} {k : Nat} {x : It} (h : p[k]? = some x) : it p k = x := by simp [it, h]
theorem it_get {p : List It} {k : Nat} (h : k < p.length) : p[k]? = some (it p k) := by simp [it, h]
theorem it_mem {p : List It} {k : Nat} (h : k < p.length) : it p k ∈ p := List.mem_of_getElem? (it_get h)

theorem start_mono {p : List It} {j k : Nat} (h : j ≤ k) (hk : k ≤ p.length) : start p j ≤ start p k := by
  induction k with
  | zero => have : j = 0 := by omega
            subst this; exact Nat.le_refl _
  | succ k ih =>
    by_cases e : j = k + 1
    · subst e; exact Nat.le_refl _
    · have h1 := ih (by omega) (by omega)
      have h2 := start_succ (it_get (p := p) (k := k) (by omega))
      omega

theorem start_length (p : List It) : start p p.length = cnt p := by simp [start]
theorem start_zero (p : List It) : start p 0 = 0 := by simp [start, cnt, owners, ownersFrom]

theorem cnt_le {p : List It} (h : KOk p) : cnt p ≤ 100 * p.length := by
  have : ∀ k, k ≤ p.length → start p k ≤ 100 * k := by
    intro k
    induction k with
    | zero => intro _; rw [start_zero]; omega
    | succ k ih =>
      intro hk
      have h1 := ih (by omega)
      have h2 := start_succ (it_get (p := p) (k := k) (by omega))
      have h3 := n_pos h (it_mem (p := p) (k := k) (by omega))
      omega
  have := this p.length (Nat.le_refl _)
  rw [start_length] at this
  exact this

/-- The owner of an object, by places. -/
theorem owners_get {p : List It} {k j : Nat} {x : It} (h : p[k]? = some x) (hj : j < x.n) : (owners p)[start p k + j]? = some k := by
  have hk : k < p.length := (List.getElem?_eq_some_iff.1 h).1
  have e : p = p.take k ++ (x :: p.drop (k + 1)) := by
    have h1 : p.drop k = x :: p.drop (k + 1) := by
      rw [List.drop_eq_getElem_cons hk]
      congr 1
      exact (List.getElem?_eq_some_iff.1 h).2
    rw [← h1, List.take_append_drop]
  have e2 : owners p = owners (p.take k) ++ (List.replicate x.n k ++ ownersFrom (k + 1) (p.drop (k + 1))) := by
    conv => lhs; rw [e]
    unfold owners
    rw [ownersFrom_append]
    simp only [ownersFrom, List.length_take, Nat.zero_add]
    rw [Nat.min_eq_left (by omega)]
  rw [e2, List.getElem?_append_right (by unfold start cnt; omega)]
  have : start p k + j - (owners (p.take k)).length = j := by unfold start cnt; omega
  rw [this, List.getElem?_append_left (by simpa using hj), List.getElem?_replicate]
  simp [hj]

theorem own_start {p : List It} {k j : Nat} (h : k < p.length) (hj : j < (it p k).n) : own p (start p k + j) = k := by
  simp [own, owners_get (it_get h) hj]

theorem start_lt {p : List It} {k j : Nat} (h : k < p.length) (hj : j < (it p k).n) : start p k + j < cnt p :=
  (List.getElem?_eq_some_iff.1 (owners_get (it_get h) hj)).1

/-- Each object is one of its owner's. -/
theorem own_spec {p : List It} {r : Nat} (h : r < cnt p) : own p r < p.length ∧ start p (own p r) ≤ r ∧ r < start p (own p r) + (it p (own p r)).n := by
  have hex : ∀ m, m ≤ p.length → r < start p m → ∃ k, k < m ∧ start p k ≤ r ∧ r < start p k + (it p k).n := by
    intro m
    induction m with
    | zero => intro _ h0; rw [start_zero] at h0; omega
    | succ m ih =>
      intro hm hr
      by_cases hlt : r < start p m
      · obtain ⟨k, h1, h2⟩ := ih (by omega) hlt
        exact ⟨k, by omega, h2⟩
      · have h2 := start_succ (it_get (p := p) (k := m) (by omega))
        exact ⟨m, by omega, by omega, by omega⟩
  obtain ⟨k, h1, h2, h3⟩ := hex p.length (Nat.le_refl _) (by rw [start_length]; exact h)
  have := own_start (p := p) (k := k) (j := r - start p k) h1 (by omega)
  rw [show start p k + (r - start p k) = r by omega] at this
  rw [this]
  exact ⟨h1, h2, h3⟩

theorem owners_getD {p : List It} {r : Nat} (h : r < cnt p) : (owners p)[r]? = some (own p r) := by
  unfold own cnt at *
  simp [h]

theorem mem_objs {p : List It} {k r : Nat} (h : k < p.length) : r ∈ objs p k ↔ r < cnt p ∧ own p r = k := by
  unfold objs
  rw [List.mem_range'_1]
  constructor
  · intro ⟨h1, h2⟩
    have e : start p k + (r - start p k) = r := by omega
    have h3 := start_lt (p := p) (k := k) (j := r - start p k) h (by omega)
    have h4 := own_start (p := p) (k := k) (j := r - start p k) h (by omega)
    rw [e] at h3 h4
    exact ⟨h3, h4⟩
  · intro ⟨h1, h2⟩
    have := own_spec h1
    rw [h2] at this
    exact ⟨this.2.1, this.2.2⟩

theorem Rch.lt {p : List It} (hr : ROk p) {f : It → Bool} {k : Nat} (hk : k < p.length) {r : Nat} (h : Rch p f k r) : r < cnt p := by
  induction h with
  | ref h1 => have := hr _ (it_mem hk) _ h1; omega
  | step h1 h2 h3 ih =>
    have := hr _ (it_mem (own_spec ih).1) _ h3
    omega

/-! ### Small facts on lists -/
theorem take_succ_eq {α : Type} {l m : List α} {k : Nat} {x y : α} (hx : l[k]? = some x) (hy : m[k]? = some y) (h : l.take k = m.take k) (he : x = y) : l.take (k + 1) = m.take (k + 1) := by
  rw [List.take_add_one, List.take_add_one, h, hx, hy, he]

theorem take_snoc {α : Type} {l : List α} {k : Nat} {x : α} (hx : l[k]? = some x) : l.take (k + 1) = l.take k ++ [x] := by
  rw [List.take_add_one, hx]; rfl

theorem get_lt {α : Type} {l : List α} {k : Nat} (h : k < l.length) : ∃ x, l[k]? = some x := ⟨l[k], List.getElem?_eq_getElem h⟩

/-! ### Lists that the small functions build -/
/-- The numbers of what is marked, among the first k. -/
def marksTo (l : List Bool) (k : Nat) : List Nat := (List.range k).filter fun i => l.getD i false
def marks (l : List Bool) : List Nat := marksTo l l.length

theorem marksTo_succ (l : List Bool) (k : Nat) : marksTo l (k + 1) = marksTo l k ++ (if l.getD k false then [k] else []) := by
  unfold marksTo
  rw [List.range_succ, List.filter_append]
  congr 1
  simp only [List.filter_cons, List.filter_nil]
theorem marksTo_length (l : List Bool) (k : Nat) : (marksTo l k).length ≤ k := by
  have := List.length_filter_le (fun i => l.getD i false) (List.range k)
  simpa [marksTo] using this
theorem mem_marks {l : List Bool} {r : Nat} : r ∈ marks l ↔ l[r]? = some true := by
  unfold marks marksTo
  rw [List.mem_filter, List.mem_range]
  constructor
  · intro ⟨h1, h2⟩
    rw [List.getElem?_eq_getElem h1]
    simp [h1] at h2
    rw [h2]
  · intro h
    obtain ⟨h1, h2⟩ := List.getElem?_eq_some_iff.1 h
    exact ⟨h1, by simp [h1, h2]⟩

/-- Is it a variable with an expression, or several? -/
def It.ini (x : It) : Bool := x.kind == 0 || x.kind == 1
/-- The initializers of the first m declarations. -/
def initsTo (p : List It) (m : Nat) : List (List Nat) := ((List.range m).filter fun k => (it p k).ini).map (objs p)
def inits (p : List It) : List (List Nat) := initsTo p p.length
theorem initsTo_succ (p : List It) (m : Nat) : initsTo p (m + 1) = initsTo p m ++ (if (it p m).ini then [objs p m] else []) := by
  unfold initsTo
  rw [List.range_succ, List.filter_append, List.map_append]
  congr 1
  simp only [List.filter_cons, List.filter_nil]
  split <;> simp
theorem initsTo_length (p : List It) (m : Nat) : (initsTo p m).length ≤ m := by
  unfold initsTo
  rw [List.length_map]
  have := List.length_filter_le (fun k => (it p k).ini) (List.range m)
  simpa using this

/-- All variables without an expression are declared ahead of all others. -/
def PFirst (p : List It) : Prop := ∀ k, k < p.length → (it p k).kind = 2 → ∀ j, j < k → (it p j).ini = false
/-- Of each group others refer to the last variable alone. -/
def LoneP (p : List It) : Prop := ∀ k, k < p.length → ∀ r : Nat, (r : Int) ∈ (it p k).refs → own p r ≠ k → (it p (own p r)).kind = 1 → r + 1 < cnt p → own p (r + 1) ≠ own p r

theorem objs_length (p : List It) (k : Nat) : (objs p k).length = (it p k).n := by simp [objs]

end Go.Proofs.YtelfaljidgfphaaGreat
