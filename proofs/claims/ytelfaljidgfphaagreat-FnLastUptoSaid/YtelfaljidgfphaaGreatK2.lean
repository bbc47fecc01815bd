/-
  The plain law of the graphs: what is left when the functions are removed one by one is what functions lead to.
-/
import Derived.Test.YtelfaljidgfphaaGreatK1
namespace Go.Proofs.YtelfaljidgfphaaGreat
open Go.RowKit

/-- x leads to y by objects of D. -/
inductive Via (p : List It) (D : Nat → Prop) (x : Nat) : Nat → Prop
  | ref {y : Nat} : E0 p x y → Via p D x y
  | step {z y : Nat} : Via p D x z → D z → E0 p z y → Via p D x y

theorem Via.mono {p : List It} {D D' : Nat → Prop} (h : ∀ z, D z → D' z) {x y : Nat} (hv : Via p D x y) : Via p D' x y := by
  induction hv with
  | ref h1 => exact .ref h1
  | step _ h2 h3 ih => exact .step ih (h _ h2) h3
theorem Via.trans {p : List It} {D : Nat → Prop} {x f y : Nat} (h1 : Via p D x f) (hf : D f) (h2 : Via p D f y) : Via p D x y := by
  induction h2 with
  | ref h => exact .step h1 hf h
  | step _ h3 h4 ih => exact .step ih h3 h4
/-- One intermediate object more. -/
theorem via_more {p : List It} {D : Nat → Prop} {f x y : Nat} : Via p (fun z => D z ∨ z = f) x y ↔ Via p D x y ∨ (Via p D x f ∧ Via p D f y) := by
  constructor
  · intro h
    induction h with
    | ref h1 => exact .inl (.ref h1)
    | step _ h2 h3 ih =>
      rcases h2 with h2 | rfl
      · exact ih.imp (fun h => .step h h2 h3) (fun h => ⟨h.1, .step h.2 h2 h3⟩)
      · exact .inr ⟨ih.elim id (·.1), .ref h3⟩
  · rintro (h | ⟨h1, h2⟩)
    · exact h.mono fun _ => .inl
    · exact Via.trans (h1.mono fun _ => .inl) (.inr rfl) (h2.mono fun _ => .inl)

theorem EL_via (p : List It) : ∀ (n : Nat) (fs : List Nat), fs.length = n → ∀ x y, EL p fs x y ↔ Via p (· ∈ fs) x y
  | 0, fs, h, x, y => by
    have : fs = [] := List.eq_nil_of_length_eq_zero h
    subst this
    constructor
    · exact fun h => .ref h
    · intro h
      cases h with
      | ref h => exact h
      | step _ h _ => simp at h
  | n + 1, fs, h, x, y => by
    obtain rfl | ⟨fs', f, rfl⟩ := List.eq_nil_or_concat fs
    · simp at h
    · rw [List.concat_eq_append] at *
      have hl : fs'.length = n := by simpa using h
      rw [EL_snoc]
      have e : ∀ x y, Via p (· ∈ fs' ++ [f]) x y ↔ Via p (fun z => z ∈ fs' ∨ z = f) x y := fun x y => ⟨fun h => h.mono fun z hz => by simpa using hz, fun h => h.mono fun z hz => by simpa using hz⟩
      rw [e, via_more]
      simp only [stepE, EL_via p n fs' hl]

theorem via_rch {p : List It} (hr : ROk p) {fs : List Nat} (hfs : ∀ r, r ∈ fs ↔ r < cnt p ∧ kindAt p r = 3) {x : Nat} (hx : x < cnt p) (y : Nat) : Via p (· ∈ fs) x y ↔ Rch p fFunc (own p x) y := by
  have hb : ∀ {u v : Nat}, u < cnt p → E0 p u v → v < cnt p := fun {u v} hu h => by
    have := hr _ (it_mem (own_spec hu).1) _ h
    omega
  constructor
  · intro h
    induction h with
    | ref h1 => exact .ref h1
    | step _ h2 h3 ih => exact .step ih (by have := ((hfs _).1 h2).2; simpa [fFunc, kindAt] using this) h3
  · intro h
    have : Via p (· ∈ fs) x y ∧ y < cnt p := by
      induction h with
      | ref h1 => exact ⟨.ref h1, hb hx h1⟩
      | step _ h2 h3 ih => exact ⟨.step ih.1 ((hfs _).2 ⟨ih.2, by simpa [fFunc, kindAt] using h2⟩) h3, hb ih.2 h3⟩
    exact this.1

/-- The two graphs are one. -/
theorem graph_law {p : List It} (hr : ROk p) {lg fs : List Nat} {ks : Bool → Nat → List Nat} (hlg : ∀ r, r ∈ lg ↔ r < cnt p ∧ kindAt p r ≠ 3) (hfs : ∀ r, r ∈ fs ↔ r < cnt p ∧ kindAt p r = 3) (hi : Inv (cnt p) fs (EL p fs) ks) :
    slAt (cnt p) ks lg = specGraph p (cnt p) := by
  unfold slAt specGraph
  refine List.map_congr_left fun r hr' => ?_
  have hrn : r < cnt p := by simpa using hr'
  unfold specAt
  by_cases h3 : kindAt p r = 3
  · rw [if_neg (fun h => ((hlg r).1 h).2 h3), if_pos h3]
  · rw [if_pos ((hlg r).2 ⟨hrn, h3⟩), if_neg h3]
    unfold sl specRow
    congr 1
    refine List.filter_congr fun y hy => ?_
    have hyn : y < cnt p := by simpa using hy
    have hrf : r ∉ fs := fun h => h3 ((hfs r).1 h).2
    have hget : (reach p fFunc (own p r)).getD y false = true ↔ Rch p fFunc (own p r) y := by
      unfold reach
      simp [List.getD_eq_getElem?_getD, hyn]
    have key : y ∈ ks true r ↔ Rch p fFunc (own p r) y ∧ kindAt p y ≠ 3 := by
      constructor
      · intro h
        have hl := hi.live true r y hrn hrf h
        have hky : kindAt p y ≠ 3 := fun e => hl.2 ((hfs y).2 ⟨hyn, e⟩)
        exact ⟨(via_rch hr hfs hrn y).1 ((EL_via p _ fs rfl r y).1 ((hi.succ r y hrn hyn hrf hl.2).1 h)), hky⟩
      · rintro ⟨h1, h2⟩
        have hyf : y ∉ fs := fun h => h2 ((hfs y).1 h).2
        exact (hi.succ r y hrn hyn hrf hyf).2 ((EL_via p _ fs rfl r y).2 ((via_rch hr hfs hrn y).2 h1))
    rw [Bool.eq_iff_iff]
    simp only [decide_eq_true_eq, Bool.and_eq_true, hget, key]
end Go.Proofs.YtelfaljidgfphaaGreat
