/-
  Greedy orders in plain Lean: always the least one that is ready.
-/
import Derived.Test.YtelfaljidgfphaaGreatP3
namespace Go.Proofs.YtelfaljidgfphaaGreat

/-- v may be next behind L: it is one of V, it needs (N) nothing that isn't there. -/
def CandG (V : Nat → Prop) (N : Nat → Nat → Prop) (L : List Nat) (v : Nat) : Prop := V v ∧ v ∉ L ∧ ∀ s, N v s → s ∈ L
/-- Always the least one that may be next. -/
inductive Gdy (V : Nat → Prop) (N : Nat → Nat → Prop) : List Nat → Prop
  | nil : Gdy V N []
  | snoc {L : List Nat} {v : Nat} : Gdy V N L → CandG V N L v → (∀ u, u < v → ¬ CandG V N L u) → Gdy V N (L ++ [v])

def FullG (V : Nat → Prop) (L : List Nat) : Prop := ∀ v, V v → v ∈ L

section
variable {V : Nat → Prop} {N : Nat → Nat → Prop}

theorem Gdy.mem {L : List Nat} (h : Gdy V N L) : ∀ v ∈ L, V v := by
  induction h with
  | nil => simp
  | snoc _ h2 _ ih =>
    intro v hv
    rcases List.mem_append.1 hv with h | h
    · exact ih v h
    · simp at h; subst h; exact h2.1

theorem Gdy.nodup {L : List Nat} (h : Gdy V N L) : L.Nodup := by
  induction h with
  | nil => exact List.nodup_nil
  | snoc _ h2 _ ih =>
    rw [List.nodup_append]
    exact ⟨ih, by simp, fun x hx y hy => by simp at hy; subst hy; intro e; subst e; exact h2.2.1 hx⟩

/-- What stands ahead has what it needs ahead of it. -/
theorem Gdy.closed {L : List Nat} (h : Gdy V N L) : ∀ v ∈ L, ∀ s, N v s → s ∈ L := by
  induction h with
  | nil => simp
  | snoc _ h2 _ ih =>
    intro v hv s hs
    rcases List.mem_append.1 hv with h | h
    · exact List.mem_append.2 (.inl (ih v h s hs))
    · simp at h; subst h; exact List.mem_append.2 (.inl (h2.2.2 s hs))

theorem Gdy.same : ∀ (n : Nat) {a b : List Nat}, Gdy V N a → Gdy V N b → a.length = n → b.length = n → a = b
  | 0, a, b, _, _, ha, hb => by rw [List.eq_nil_of_length_eq_zero ha, List.eq_nil_of_length_eq_zero hb]
  | n + 1, a, b, h1, h2, ha, hb => by
    cases h1 with
    | nil => simp at ha
    | @snoc a' k h3 h4 h5 =>
      cases h2 with
      | nil => simp at hb
      | @snoc b' j h6 h7 h8 =>
        have e := Gdy.same n h3 h6 (by simpa using ha) (by simpa using hb)
        subst e
        have : k = j := by
          rcases Nat.lt_trichotomy k j with h | h | h
          · exact absurd h4 (h8 k h)
          · exact h
          · exact absurd h7 (h5 j h)
        subst this
        rfl

theorem nodup_sub_length : ∀ {a b : List Nat}, a.Nodup → (∀ x ∈ a, x ∈ b) → a.length ≤ b.length
  | [], _, _, _ => by simp
  | x :: a, b, ha, h => by
    have hx : x ∈ b := h x (by simp)
    have hxa := List.nodup_cons.1 ha
    have h1 := nodup_sub_length (a := a) (b := b.erase x) hxa.2 (fun y hy => (List.mem_erase_of_ne (by rintro rfl; exact hxa.1 hy)).2 (h y (by simp [hy])))
    have h2 := List.length_erase_of_mem hx
    have h3 := List.length_pos_of_mem hx
    simp only [List.length_cons]
    omega

theorem Gdy.unique {a b : List Nat} (ha : Gdy V N a) (fa : FullG V a) (hb : Gdy V N b) (fb : FullG V b) : a = b :=
  Gdy.same b.length ha hb (Nat.le_antisymm (nodup_sub_length ha.nodup fun x hx => fb x (ha.mem x hx)) (nodup_sub_length hb.nodup fun x hx => fa x (hb.mem x hx))) rfl

theorem CandG.congr {V' : Nat → Prop} {N' : Nat → Nat → Prop} {L : List Nat} (hV : ∀ v, V v ↔ V' v) (hN : ∀ v s, V v → (N v s ↔ N' v s)) (v : Nat) : CandG V N L v ↔ CandG V' N' L v := by
  unfold CandG
  constructor
  · rintro ⟨h1, h2, h3⟩; exact ⟨(hV v).1 h1, h2, fun s hs => h3 s ((hN v s h1).2 hs)⟩
  · rintro ⟨h1, h2, h3⟩; have h1' := (hV v).2 h1; exact ⟨h1', h2, fun s hs => h3 s ((hN v s h1').1 hs)⟩

theorem Gdy.congr {V' : Nat → Prop} {N' : Nat → Nat → Prop} (hV : ∀ v, V v ↔ V' v) (hN : ∀ v s, V v → (N v s ↔ N' v s)) {L : List Nat} (h : Gdy V N L) : Gdy V' N' L := by
  induction h with
  | nil => exact .nil
  | snoc _ h2 h3 ih => exact .snoc ih ((CandG.congr hV hN _).1 h2) (fun u hu hc => h3 u hu ((CandG.congr hV hN u).2 hc))

/-- A change of the needs that no step of this order sees. -/
theorem Gdy.turn {V' : Nat → Prop} {N' : Nat → Nat → Prop} {L : List Nat} (h : Gdy V N L) (hs : ∀ a v, Gdy V N a → Gdy V' N' a → CandG V N a v → (∀ u, u < v → ¬ CandG V N a u) → CandG V' N' a v ∧ ∀ u, u < v → ¬ CandG V' N' a u) : Gdy V' N' L := by
  induction h with
  | nil => exact .nil
  | snoc h1 h2 h3 ih => have := hs _ _ h1 ih h2 h3; exact .snoc ih this.1 this.2

/-- What a chain of needs leads to. -/
inductive Tc (N : Nat → Nat → Prop) : Nat → Nat → Prop
  | one {v s : Nat} : N v s → Tc N v s
  | more {v s t : Nat} : Tc N v s → N s t → Tc N v t

theorem Gdy.tc {L : List Nat} (h : Gdy V N L) {v s : Nat} (ht : Tc N v s) (hv : ∀ s, N v s → s ∈ L) : s ∈ L := by
  induction ht with
  | one h1 => exact hv _ h1
  | more _ h2 ih => exact h.closed _ ih _ h2

/-- More needs, of which each one is met by the others. -/
theorem Gdy.more {N' : Nat → Nat → Prop} (h1 : ∀ v s, N v s → N' v s) (h2 : ∀ v s, V v → N' v s → Tc N v s) {L : List Nat} (h : Gdy V N L) : Gdy V N' L := by
  refine h.turn fun a v ha _ hc hm => ⟨⟨hc.1, hc.2.1, fun s hs => ha.tc (h2 v s hc.1 hs) hc.2.2⟩, fun u hu hc' => hm u hu ⟨hc'.1, hc'.2.1, fun s hs => hc'.2.2 s (h1 u s hs)⟩⟩

/-- A part of the variables that needs none but its own. -/
theorem Gdy.part {W : Nat → Prop} [DecidablePred W] (hW : ∀ v, W v → V v) (hc : ∀ v s, W v → N v s → W s) {L : List Nat} (h : Gdy V N L) : Gdy W N (L.filter fun v => decide (W v)) := by
  induction h with
  | nil => exact .nil
  | @snoc L v h1 h2 h3 ih =>
    rw [List.filter_append]
    by_cases hv : W v
    · simp only [List.filter_cons, hv, decide_true, if_true, List.filter_nil]
      refine .snoc ih ⟨hv, fun hm => h2.2.1 (List.mem_filter.1 hm).1, fun s hs => List.mem_filter.2 ⟨h2.2.2 s hs, by simpa using hc v s hv hs⟩⟩ ?_
      intro u hu hcu
      exact h3 u hu ⟨hW u hcu.1, fun hm => hcu.2.1 (List.mem_filter.2 ⟨hm, by simpa using hcu.1⟩), fun s hs => (List.mem_filter.1 (hcu.2.2 s hs)).1⟩
    · simp only [List.filter_cons, hv, decide_false, Bool.false_eq_true, if_false, List.filter_nil, List.append_nil]
      exact ih

/-- New numbers, in the same order. -/
theorem Gdy.map {V' : Nat → Prop} {N' : Nat → Nat → Prop} {f : Nat → Nat} (hf : ∀ u v, V u → V v → u < v → f u < f v) (hV : ∀ v', V' v' ↔ ∃ v, V v ∧ f v = v') (hN : ∀ v s', V v → (N' (f v) s' ↔ ∃ s, N v s ∧ f s = s')) (hNV : ∀ v s, V v → N v s → V s)
    {L : List Nat} (h : Gdy V N L) : Gdy V' N' (L.map f) := by
  have hinj : ∀ u v, V u → V v → f u = f v → u = v := fun u v hu hv e => by
    rcases Nat.lt_trichotomy u v with h | h | h
    · have := hf u v hu hv h; omega
    · exact h
    · have := hf v u hv hu h; omega
  induction h with
  | nil => exact .nil
  | @snoc L v h1 h2 h3 ih =>
    rw [List.map_append]
    refine .snoc ih ⟨(hV _).2 ⟨v, h2.1, rfl⟩, fun hm => ?_, fun s' hs' => ?_⟩ fun u' hu' hc' => ?_
    · obtain ⟨x, hx, he⟩ := List.mem_map.1 hm
      exact h2.2.1 (hinj x v (h1.mem x hx) h2.1 he ▸ hx)
    · obtain ⟨s, hs, rfl⟩ := (hN v s' h2.1).1 hs'
      exact List.mem_map.2 ⟨s, h2.2.2 s hs, rfl⟩
    · obtain ⟨u, hu, rfl⟩ := (hV u').1 hc'.1
      have hlt : u < v := by
        rcases Nat.lt_trichotomy u v with h | h | h
        · exact h
        · subst h; omega
        · have := hf v u h2.1 hu h; omega
      refine h3 u hlt ⟨hu, fun hm => hc'.2.1 (List.mem_map.2 ⟨u, hm, rfl⟩), fun s hs => ?_⟩
      obtain ⟨x, hx, he⟩ := List.mem_map.1 (hc'.2.2 (f s) ((hN u (f s) hu).2 ⟨s, hs, rfl⟩))
      exact hinj x s (h1.mem x hx) (hNV u s hu hs) he ▸ hx

/-- Where none needs anything: in their own order. -/
theorem Gdy.sorted (hN : ∀ v s, ¬ N v s) [DecidablePred V] : ∀ n, Gdy V N ((List.range n).filter fun v => decide (V v))
  | 0 => .nil
  | n + 1 => by
    rw [List.range_succ, List.filter_append]
    have ih := Gdy.sorted hN n
    by_cases hv : V n
    · simp only [List.filter_cons, hv, decide_true, if_true, List.filter_nil]
      refine .snoc ih ⟨hv, fun hm => ?_, fun s hs => absurd hs (hN _ _)⟩ fun u hu hc => hc.2.1 (List.mem_filter.2 ⟨List.mem_range.2 hu, by simpa using hc.1⟩)
      have := List.mem_range.1 (List.mem_filter.1 hm).1
      omega
    · simpa [List.filter_cons, hv] using ih
end

/-- The variables, and what they need. -/
def Vn (p : List It) (r : Nat) : Prop := r < cnt p ∧ (it p (own p r)).var = true
def Nn (p : List It) (r s : Nat) : Prop := Rch p fFunc (own p r) s ∧ s < cnt p ∧ (it p (own p s)).var = true
/-- What is told of an order of all variables: of each declaration with an expression its first variable's place. -/
def emit (p : List It) (L : List Nat) : List (List Nat) := (L.filter fun r => (it p (own p r)).ini && (r == start p (own p r))).map fun r => objs p (own p r)
end Go.Proofs.YtelfaljidgfphaaGreat
