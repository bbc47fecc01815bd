/-
  Plain: the search of 'reached', told by what holds of its marks and its queue at every round's head.
-/
import Derived.Test.YtelfaljidgfphaaGreatP1
namespace Go.Proofs.YtelfaljidgfphaaGreat

/-- What an object refers to. -/
def refsAt (p : List It) (r : Nat) : List Int := (it p (own p r)).refs

structure Bfs (p : List It) (f : It → Bool) (k : Nat) (out : List Bool) (wait : List Int) : Prop where
  len : out.length = cnt p
  sound : ∀ r : Nat, out[r]? = some true → Rch p f k r
  queue : ∀ x ∈ wait, ∃ r : Nat, x = (r : Int) ∧ Rch p f k r
  first : ∀ r : Nat, (r : Int) ∈ (it p k).refs → (r : Int) ∈ wait ∨ out[r]? = some true
  next : ∀ r : Nat, out[r]? = some true → f (it p (own p r)) = true → ∀ s : Nat, (s : Int) ∈ refsAt p r → (s : Int) ∈ wait ∨ out[s]? = some true

theorem nat_of_mem {p : List It} (hr : ROk p) {k : Nat} (hk : k < p.length) {x : Int} (hx : x ∈ (it p k).refs) : ∃ r : Nat, x = (r : Int) ∧ r < cnt p := by
  have h := hr _ (it_mem hk) x hx
  exact ⟨x.toNat, by omega, by omega⟩

theorem Bfs.start {p : List It} (hr : ROk p) {f : It → Bool} {k : Nat} (hk : k < p.length) : Bfs p f k (List.replicate (cnt p) false) (it p k).refs where
  len := by simp
  sound r h := by
    rw [List.getElem?_replicate] at h
    split at h <;> simp at h
  queue x hx := by
    obtain ⟨r, rfl, _⟩ := nat_of_mem hr hk hx
    exact ⟨r, rfl, .ref hx⟩
  first r h := .inl h
  next r h := by
    rw [List.getElem?_replicate] at h
    split at h <;> simp at h

/-- An object that is marked already. -/
theorem Bfs.skip {p : List It} {f : It → Bool} {k : Nat} {out : List Bool} {r : Nat} {wait : List Int} (h : Bfs p f k out ((r : Int) :: wait)) (hm : out[r]? = some true) : Bfs p f k out wait where
  len := h.len
  sound := h.sound
  queue x hx := h.queue x (by simp [hx])
  first s hs := by
    rcases h.first s hs with h1 | h1
    · rcases List.mem_cons.1 h1 with h2 | h2
      · have : s = r := by omega
        subst this; exact .inr hm
      · exact .inl h2
    · exact .inr h1
  next t ht hf s hs := by
    rcases h.next t ht hf s hs with h1 | h1
    · rcases List.mem_cons.1 h1 with h2 | h2
      · have : s = r := by omega
        subst this; exact .inr hm
      · exact .inl h2
    · exact .inr h1

theorem get_set_true {out : List Bool} {r s : Nat} (hr : r < out.length) : (out.set r true)[s]? = some true ↔ s = r ∨ out[s]? = some true := by
  rw [List.getElem?_set]
  by_cases e : r = s
  · subst e; simp [hr]
  · rw [if_neg e]
    constructor
    · intro h; exact .inr h
    · rintro (h | h)
      · exact absurd h.symm e
      · exact h

/-- An object that is marked now; what it refers to is followed or is not. -/
theorem Bfs.mark {p : List It} {f : It → Bool} {k : Nat} {out : List Bool} {r : Nat} {wait more : List Int} (h : Bfs p f k out ((r : Int) :: wait)) (hr : ROk p) (hrl : r < cnt p)
    (hmore : more = if f (it p (own p r)) = true then refsAt p r else []) : Bfs p f k (out.set r true) (wait ++ more) := by
  have hR : Rch p f k r := by
    obtain ⟨s, e, hs⟩ := h.queue (r : Int) (by simp)
    have : s = r := by omega
    subst this; exact hs
  have hl : r < out.length := by rw [h.len]; exact hrl
  refine ⟨by simp [h.len], fun s hs => ?_, fun x hx => ?_, fun s hs => ?_, fun t ht hf s hs => ?_⟩
  · rcases (get_set_true hl).1 hs with rfl | h1
    · exact hR
    · exact h.sound s h1
  · rcases List.mem_append.1 hx with h1 | h1
    · exact h.queue x (by simp [h1])
    · subst hmore
      split at h1
      · rename_i hf
        obtain ⟨s, rfl, _⟩ := nat_of_mem hr (own_spec hrl).1 h1
        exact ⟨s, rfl, .step hR hf h1⟩
      · simp at h1
  · rcases h.first s hs with h1 | h1
    · rcases List.mem_cons.1 h1 with h2 | h2
      · have : s = r := by omega
        subst this; exact .inr ((get_set_true hl).2 (.inl rfl))
      · exact .inl (by simp [h2])
    · exact .inr ((get_set_true hl).2 (.inr h1))
  · rcases (get_set_true hl).1 ht with rfl | h1
    · refine .inl ?_
      subst hmore
      rw [if_pos hf]
      simp [hs]
    · rcases h.next t h1 hf s hs with h1 | h1
      · rcases List.mem_cons.1 h1 with h2 | h2
        · have : s = r := by omega
          subst this; exact .inr ((get_set_true hl).2 (.inl rfl))
        · exact .inl (by simp [h2])
      · exact .inr ((get_set_true hl).2 (.inr h1))

open Classical in
theorem Bfs.done {p : List It} {f : It → Bool} {k : Nat} {out : List Bool} (h : Bfs p f k out []) : out = reach p f k := by
  have hall : ∀ r : Nat, Rch p f k r → out[r]? = some true := by
    intro r hr
    induction hr with
    | ref h1 => rcases h.first _ h1 with h2 | h2; simp at h2; exact h2
    | step h1 h2 h3 ih => rcases h.next _ ih h2 _ h3 with h4 | h4; simp at h4; exact h4
  apply List.ext_getElem?
  intro r
  unfold reach
  rw [List.getElem?_map]
  by_cases hr : r < cnt p
  · rw [List.getElem?_range hr]
    obtain ⟨b, hb⟩ := get_lt (l := out) (k := r) (by rw [h.len]; exact hr)
    rw [hb]
    simp only [Option.map_some]
    congr 1
    cases b with
    | true => exact (decide_eq_true (h.sound r hb)).symm
    | false => exact (decide_eq_false fun hc => by rw [hall r hc] at hb; cases hb).symm
  · rw [List.getElem?_eq_none (by rw [h.len]; omega), List.getElem?_eq_none (by simp; omega)]
    rfl

theorem reach_length (p : List It) (f : It → Bool) (k : Nat) : (reach p f k).length = cnt p := by simp [reach]
theorem needs_length (p : List It) (k : Nat) : (needs p k).length = cnt p := by simp [needs]
theorem needsAll_length (p : List It) (k : Nat) : (needsAll p k).length = cnt p := by simp [needsAll]

/-! ### How long the search goes on -/
/-- What is still to be paid for the objects that are not marked. -/
def costOf (g : Nat → Nat) : List Bool → Nat → Nat
  | [], _ => 0
  | b :: l, i => (if b then 0 else g i + 1) + costOf g l (i + 1)

theorem cost_set (g : Nat → Nat) : ∀ (l : List Bool) (i r : Nat), l[r]? = some false → costOf g (l.set r true) i + (g (i + r) + 1) = costOf g l i
  | [], i, r, h => by simp at h
  | b :: l, i, 0, h => by
    simp at h; subst h
    simp only [List.set_cons_zero, costOf, Nat.add_zero]
    simp; omega
  | b :: l, i, r + 1, h => by
    have := cost_set g l (i + 1) r (by simpa using h)
    simp only [List.set_cons_succ, costOf]
    rw [show i + (r + 1) = i + 1 + r by omega]
    omega

/-- The weight of declarations. -/
def wt : List It → Nat
  | [] => 0
  | x :: p => x.refs.length + 1 + wt p

theorem wt_append (p q : List It) : wt (p ++ q) = wt p + wt q := by
  induction p with
  | nil => simp [wt]
  | cons x p ih => simp only [List.cons_append, wt, ih]; omega
theorem wt_take_succ {p : List It} {k : Nat} (h : k < p.length) : wt (p.take (k + 1)) = wt (p.take k) + ((it p k).refs.length + 1) := by
  rw [take_snoc (it_get h), wt_append]; simp [wt]
theorem refs_le_wt {p : List It} {k : Nat} (h : k < p.length) : (it p k).refs.length + 1 ≤ wt p := by
  have h1 := wt_take_succ h
  have h2 : wt p = wt (p.take (k + 1)) + wt (p.drop (k + 1)) := by rw [← wt_append, List.take_append_drop]
  omega
theorem length_le_wt : ∀ (p : List It), p.length ≤ wt p
  | [] => Nat.le_refl _
  | x :: p => by have := length_le_wt p; simp only [List.length_cons, wt]; omega

theorem cost_replicate (g : Nat → Nat) : ∀ (m i : Nat) (c : Nat), (∀ j, j < m → g (i + j) = c) → costOf g (List.replicate m false) i = m * (c + 1)
  | 0, i, c, _ => by simp [costOf]
  | m + 1, i, c, h => by
    have h0 := h 0 (by omega)
    have ih := cost_replicate g m (i + 1) c (fun j hj => by have := h (j + 1) (by omega); rw [← this]; congr 1; omega)
    rw [List.replicate_succ]
    simp only [costOf]
    rw [ih]
    simp only [Nat.add_zero] at h0
    rw [h0, Nat.add_mul]
    simp; omega

theorem cost_append (g : Nat → Nat) : ∀ (l m : List Bool) (i : Nat), costOf g (l ++ m) i = costOf g l i + costOf g m (i + l.length)
  | [], m, i => by simp [costOf]
  | b :: l, m, i => by
    simp only [List.cons_append, costOf, cost_append g l m (i + 1), List.length_cons]
    rw [show i + (l.length + 1) = i + 1 + l.length by omega]
    omega

theorem cost_start {p : List It} (hk : KOk p) : costOf (fun r => (refsAt p r).length) (List.replicate (cnt p) false) 0 ≤ 100 * wt p := by
  have : ∀ m, m ≤ p.length → costOf (fun r => (refsAt p r).length) (List.replicate (start p m) false) 0 ≤ 100 * wt (p.take m) := by
    intro m
    induction m with
    | zero => intro _; rw [start_zero]; simp [costOf]
    | succ m ih =>
      intro hm
      have h1 := ih (by omega)
      have h2 := start_succ (it_get (p := p) (k := m) (by omega))
      have h3 := n_pos hk (it_mem (p := p) (k := m) (by omega))
      have h5 : costOf (fun r => (refsAt p r).length) (List.replicate (it p m).n false) (start p m) = (it p m).n * ((it p m).refs.length + 1) :=
        cost_replicate _ _ _ (it p m).refs.length (fun j hj => by show (refsAt p _).length = _; unfold refsAt; rw [own_start (by omega) hj])
      rw [h2, ← List.replicate_append_replicate, cost_append, List.length_replicate, Nat.zero_add, h5, wt_take_succ (by omega)]
      have h4 : (it p m).n * ((it p m).refs.length + 1) ≤ 100 * ((it p m).refs.length + 1) := Nat.mul_le_mul_right _ h3.2
      omega
  have := this p.length (Nat.le_refl _)
  rw [start_length, List.take_length] at this
  exact this
end Go.Proofs.YtelfaljidgfphaaGreat
