/-
  Plain: the steps in which variables are initialized, declaration by declaration.
-/
import Derived.Test.YtelfaljidgfphaaGreatP2
namespace Go.Proofs.YtelfaljidgfphaaGreat

/-- A declaration is ready: what it needs is done. -/
def Rdy (p : List It) (D : Nat → Prop) (k : Nat) : Prop := ∀ r : Nat, (needs p k)[r]? = some true → D (own p r)

/-- A declaration that may be next. -/
def Cand (p : List It) (ord : List Nat) (k : Nat) : Prop := k < p.length ∧ (it p k).var = true ∧ k ∉ ord ∧ Rdy p (· ∈ ord) k

/-- The steps: always the earliest one that is ready. -/
inductive StepsTo (p : List It) : List Nat → Prop
  | nil : StepsTo p []
  | snoc {ord : List Nat} {k : Nat} : StepsTo p ord → Cand p ord k → (∀ j, j < k → ¬ Cand p ord j) → StepsTo p (ord ++ [k])

/-- No step is left. -/
def Stuck (p : List It) (ord : List Nat) : Prop := ∀ k, ¬ Cand p ord k
/-- All variables are initialized. -/
def Full (p : List It) (ord : List Nat) : Prop := ∀ k, k < p.length → (it p k).var = true → k ∈ ord

/-- Declarations of which the statements speak, without an initialization cycle. -/
def Valid (p : List It) : Prop := Fit p ∧ ∃ ord, StepsTo p ord ∧ Full p ord

theorem StepsTo.lt {p : List It} {ord : List Nat} (h : StepsTo p ord) : ∀ k ∈ ord, k < p.length ∧ (it p k).var = true := by
  induction h with
  | nil => simp
  | snoc h1 h2 h3 ih =>
    intro k hk
    rcases List.mem_append.1 hk with h | h
    · exact ih k h
    · simp at h; subst h; exact ⟨h2.1, h2.2.1⟩

theorem StepsTo.nodup {p : List It} {ord : List Nat} (h : StepsTo p ord) : ord.Nodup := by
  induction h with
  | nil => exact List.nodup_nil
  | snoc h1 h2 h3 ih =>
    rw [List.nodup_append]
    exact ⟨ih, by simp, fun x hx y hy => by simp at hy; subst hy; intro e; subst e; exact h2.2.2.1 hx⟩

theorem nodup_length_le : ∀ {n : Nat} {l : List Nat}, l.Nodup → (∀ x ∈ l, x < n) → l.length ≤ n
  | 0, l, _, hl => by
    cases l with
    | nil => simp
    | cons a l => have := hl a (by simp); omega
  | n + 1, l, h, hl => by
    have h1 := nodup_length_le (n := n) (l := l.erase n) (h.erase n) (fun x hx => by
      have h2 := (List.Nodup.mem_erase_iff h).1 hx
      have := hl x h2.2
      omega)
    have h2 := List.length_erase (a := n) (l := l)
    split at h2 <;> omega

theorem StepsTo.length_le {p : List It} {ord : List Nat} (h : StepsTo p ord) : ord.length ≤ p.length := nodup_length_le h.nodup (fun k hk => (h.lt k hk).1)

theorem Full.stuck {p : List It} {ord : List Nat} (h : Full p ord) : Stuck p ord := fun k hc => hc.2.2.1 (h k hc.1 hc.2.1)

theorem StepsTo.same {p : List It} : ∀ (n : Nat) {a b : List Nat}, StepsTo p a → StepsTo p b → a.length = n → b.length = n → a = b
  | 0, a, b, _, _, ha, hb => by
    rw [List.eq_nil_of_length_eq_zero ha, List.eq_nil_of_length_eq_zero hb]
  | n + 1, a, b, h1, h2, ha, hb => by
    cases h1 with
    | nil => simp at ha
    | @snoc a' k h3 h4 h5 =>
      cases h2 with
      | nil => simp at hb
      | @snoc b' j h6 h7 h8 =>
        have e := StepsTo.same n h3 h6 (by simpa using ha) (by simpa using hb)
        subst e
        have : k = j := by
          rcases Nat.lt_trichotomy k j with h | h | h
          · exact absurd h4 (h8 k h)
          · exact h
          · exact absurd h7 (h5 j h)
        subst this
        rfl

theorem StepsTo.take {p : List It} {a : List Nat} (h : StepsTo p a) : ∀ m, StepsTo p (a.take m) := by
  induction h with
  | nil => intro m; simp; exact .nil
  | @snoc a' k h1 h2 h3 ih =>
    intro m
    by_cases hm : m ≤ a'.length
    · rw [List.take_append_of_le_length hm]; exact ih m
    · rw [List.take_of_length_le (by simp; omega)]; exact .snoc h1 h2 h3

/-- Where no step is left, no other way goes further. -/
theorem StepsTo.max {p : List It} {a b : List Nat} (ha : StepsTo p a) (hs : Stuck p a) (hb : StepsTo p b) : b.length ≤ a.length := by
  by_cases h : b.length ≤ a.length
  · exact h
  · exfalso
    have h1 := hb.take (a.length + 1)
    have h2 := hb.take a.length
    have e := StepsTo.same a.length ha h2 rfl (by rw [List.length_take]; omega)
    have hl : a.length < b.length := by omega
    have h3 : b.take (a.length + 1) = a ++ [b[a.length]] := by
      rw [List.take_succ_eq_append_getElem hl, ← e]
    rw [h3] at h1
    generalize hg : a ++ [b[a.length]] = c at h1
    cases h1 with
    | nil => simp at hg
    | @snoc a' k h4 h5 h6 =>
      have : a = a' := (List.append_inj' hg rfl).1
      subst this
      exact hs k h5

/-- Two ways that are both stuck are one. -/
theorem StepsTo.unique {p : List It} {a b : List Nat} (ha : StepsTo p a) (hs : Stuck p a) (hb : StepsTo p b) (ht : Stuck p b) : a = b :=
  StepsTo.same a.length ha hb rfl (Nat.le_antisymm (ha.max hs hb) (hb.max ht ha))

theorem valid_iff {p : List It} {ord : List Nat} (h : StepsTo p ord) (hs : Stuck p ord) : (∃ o, StepsTo p o ∧ Full p o) ↔ Full p ord :=
  ⟨fun ⟨o, h1, h2⟩ => by rw [h.unique hs h1 h2.stuck]; exact h2, fun hf => ⟨ord, h, hf⟩⟩
end Go.Proofs.YtelfaljidgfphaaGreat
