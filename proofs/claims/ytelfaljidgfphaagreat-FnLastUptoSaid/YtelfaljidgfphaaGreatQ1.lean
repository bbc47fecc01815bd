/-
  Heaps in plain Lean: the keys of a row by their places.
-/
import Derived.Test.YtelfaljidgfphaaGreatP1
namespace Go.Proofs.YtelfaljidgfphaaGreat

/-- The kind of the declaration of an object. -/
def kindAt (p : List It) (r : Nat) : Int := (it p (own p r)).kind
/-- Two places exchanged. -/
def sw {α : Type} (f : Nat → α) (i j : Nat) : Nat → α := fun k => if k = i then f j else if k = j then f i else f k
/-- From lo on no place is less than the one above it. -/
def HeapF (lo n : Nat) (K : Nat → Int) : Prop := ∀ j, 0 < j → j < n → lo ≤ (j - 1) / 2 → K ((j - 1) / 2) ≤ K j
/-- So but for the place i and those below it. -/
def Hole (lo n i : Nat) (K : Nat → Int) : Prop :=
  (∀ j, 0 < j → j < n → lo ≤ (j - 1) / 2 → (j - 1) / 2 ≠ i → K ((j - 1) / 2) ≤ K j) ∧ ∀ j, 0 < j → j < n → (j - 1) / 2 = i → 0 < i → lo ≤ (i - 1) / 2 → K ((i - 1) / 2) ≤ K j
/-- So but for the place j and the one above it. -/
def UpH (n j : Nat) (K : Nat → Int) : Prop :=
  (∀ k, 0 < k → k < n → k ≠ j → K ((k - 1) / 2) ≤ K k) ∧ ∀ k, 0 < k → k < n → (k - 1) / 2 = j → 0 < j → K ((j - 1) / 2) ≤ K k

theorem sw_a {α : Type} (f : Nat → α) (i j : Nat) : sw f i j i = f j := by simp [sw]
theorem sw_b {α : Type} (f : Nat → α) (i j : Nat) : sw f i j j = f i := by unfold sw; split <;> simp_all
theorem sw_o {α : Type} (f : Nat → α) {i j k : Nat} (h1 : k ≠ i) (h2 : k ≠ j) : sw f i j k = f k := by simp [sw, h1, h2]

theorem Hole.step {lo n i j : Nat} {K : Nat → Int} (h : Hole lo n i K) (hj0 : 0 < j) (hj : j < n) (hji : (j - 1) / 2 = i) (hlt : K j < K i) (hle : ∀ k, 0 < k → k < n → (k - 1) / 2 = i → K j ≤ K k) : Hole lo n j (sw K i j) := by
  have hij : i ≠ j := by omega
  constructor
  · intro k hk0 hk hlo hne
    by_cases e1 : (k - 1) / 2 = i
    · by_cases e2 : k = j
      · rw [e1, e2, sw_a, sw_b]; omega
      · rw [e1, sw_a, sw_o K (by omega) e2]; exact hle k hk0 hk e1
    · by_cases e2 : k = i
      · rw [e2, sw_a, sw_o K (by omega) (by omega)]
        subst e2
        exact h.2 j hj0 hj hji (by omega) hlo
      · by_cases e3 : k = j
        · exact absurd (e3 ▸ hji) e1
        · rw [sw_o K e1 hne, sw_o K e2 e3]
          exact h.1 k hk0 hk hlo e1
  · intro k hk0 hk hkj _ hlo
    rw [hji, sw_a, sw_o K (by omega) (by omega)]
    have := h.1 k hk0 hk (by omega) (by omega)
    rwa [hkj] at this

theorem Hole.done {lo n i : Nat} {K : Nat → Int} (h : Hole lo n i K) (hle : ∀ k, 0 < k → k < n → (k - 1) / 2 = i → K i ≤ K k) : HeapF lo n K := by
  intro k hk0 hk hlo
  by_cases e : (k - 1) / 2 = i
  · rw [e]; exact hle k hk0 hk e
  · exact h.1 k hk0 hk hlo e

theorem UpH.step {n j : Nat} {K : Nat → Int} (h : UpH n j K) (h0 : 0 < j) (hlt : K j < K ((j - 1) / 2)) : UpH n ((j - 1) / 2) (sw K ((j - 1) / 2) j) := by
  generalize hi : (j - 1) / 2 = i at hlt
  have hij : i ≠ j := by omega
  constructor
  · intro k hk0 hk hne
    by_cases e1 : k = j
    · rw [e1, hi, sw_a, sw_b]; omega
    · rw [sw_o K hne e1]
      by_cases e2 : (k - 1) / 2 = i
      · rw [e2, sw_a]
        have := h.1 k hk0 hk e1
        rw [e2] at this
        omega
      · by_cases e3 : (k - 1) / 2 = j
        · rw [e3, sw_b]
          have := h.2 k hk0 hk e3 h0
          rwa [hi] at this
        · rw [sw_o K e2 e3]; exact h.1 k hk0 hk e1
  · intro k hk0 hk hki h0i
    rw [sw_o K (by omega) (by omega)]
    have h1 := h.1 i h0i (by omega) hij
    by_cases e1 : k = j
    · rw [e1, sw_b]; exact h1
    · rw [sw_o K (by omega) e1]
      have := h.1 k hk0 hk e1
      rw [hki] at this
      omega

theorem UpH.done {n j : Nat} {K : Nat → Int} (h : UpH n j K) (hle : 0 < j → K ((j - 1) / 2) ≤ K j) : HeapF 0 n K := by
  intro k hk0 hk _
  by_cases e : k = j
  · subst e; exact hle hk0
  · exact h.1 k hk0 hk e

theorem HeapF.least {n : Nat} {K : Nat → Int} (h : HeapF 0 n K) : ∀ k, k < n → K 0 ≤ K k := by
  intro k
  induction k using Nat.strongRecOn with
  | ind k ih =>
    intro hk
    by_cases h0 : k = 0
    · subst h0; exact Int.le_refl _
    · have := ih ((k - 1) / 2) (by omega) (by omega)
      have := h k (by omega) hk (Nat.zero_le _)
      omega

theorem Hole.pop {n : Nat} {K : Nat → Int} (h : HeapF 0 (n + 1) K) : Hole 0 n 0 (sw K 0 n) := by
  refine ⟨fun j hj0 hj _ hne => ?_, fun _ _ _ _ h0 => absurd h0 (by omega)⟩
  rw [sw_o K hne (by omega), sw_o K (by omega) (by omega)]
  exact h j hj0 (by omega) (Nat.zero_le _)

theorem UpH.fix {n j : Nat} {K K' : Nat → Int} (h : HeapF 0 n K) (hj : K' j ≤ K j) (ho : ∀ k, k < n → k ≠ j → K' k = K k) : UpH n j K' := by
  refine ⟨fun k hk0 hk hne => ?_, fun k hk0 hk hkj h0 => ?_⟩
  · rw [ho k hk hne]
    have h1 := h k hk0 hk (Nat.zero_le _)
    by_cases e : (k - 1) / 2 = j
    · rw [e] at h1 ⊢; omega
    · rw [ho _ (by omega) e]; exact h1
  · rw [ho k hk (by omega), ho _ (by omega) (by omega)]
    have h1 := h k hk0 hk (Nat.zero_le _)
    rw [hkj] at h1
    have h2 := h j h0 (by omega) (Nat.zero_le _)
    omega

theorem Hole.init {n i : Nat} {K : Nat → Int} (h : HeapF (i + 1) n K) : Hole i n i K :=
  ⟨fun j hj0 hj hlo hne => h j hj0 hj (by omega), fun _ _ _ _ h0 hlo => absurd hlo (by omega)⟩
theorem HeapF.init (n : Nat) (K : Nat → Int) : HeapF (n / 2) n K := fun j _ hj hlo => absurd hlo (by omega)

/-- Two places of a list exchanged. -/
def swl (q : List Nat) (i j : Nat) : List Nat := (q.set i (q.getD j 0)).set j (q.getD i 0)
theorem swl_length (q : List Nat) (i j : Nat) : (swl q i j).length = q.length := by simp [swl]
theorem swl_getD {q : List Nat} {i j : Nat} (hi : i < q.length) (hj : j < q.length) (k : Nat) : (swl q i j).getD k 0 = sw (fun x => q.getD x 0) i j k := by
  unfold swl sw
  simp only [List.getD_eq_getElem?_getD, List.getElem?_set, List.length_set]
  by_cases e1 : j = k
  · subst e1
    by_cases e2 : j = i
    · subst e2; simp [hj]
    · simp [hj, e2]
  · by_cases e2 : i = k
    · subst e2; simp [hi, e1]
    · have e1' : ¬ k = j := fun e => e1 e.symm
      have e2' : ¬ k = i := fun e => e2 e.symm
      simp [e1, e2, e1', e2']
theorem swl_perm {q : List Nat} {i j : Nat} (hi : i < q.length) (hj : j < q.length) : List.Perm (swl q i j) q := by
  have h := Array.swap_perm (xs := q.toArray) (i := i) (j := j) (by simpa using hi) (by simpa using hj)
  rw [Array.perm_iff_toList_perm] at h
  have e : (q.toArray.swap i j (by simpa using hi) (by simpa using hj)).toList = swl q i j := by
    simp [swl, hi, hj]
  rwa [e] at h
end Go.Proofs.YtelfaljidgfphaaGreat
