/-
  The walk of FnFunctions.
-/
import Derived.Test.YtelfaljidgfphaaGreatN2
import Derived.Test.YtelfaljidgfphaaGreatM2
namespace Go.Proofs.YtelfaljidgfphaaGreat
open Go.RowKit

theorem mem_ints {l : List Nat} {r : Nat} : (r : Int) ∈ ints l ↔ r ∈ l := by
  unfold ints
  rw [List.mem_map]
  constructor
  · rintro ⟨a, h1, h2⟩
    have : a = r := by omega
    exact this ▸ h1
  · exact fun h => ⟨r, h, rfl⟩
theorem it_out {p : List It} {k : Nat} (h : ¬ k < p.length) : it p k = ⟨0, 0, []⟩ := by
  unfold it
  rw [List.getD_eq_getElem?_getD, List.getElem?_eq_none (by omega)]
  rfl
theorem rch_none {p : List It} {f : It → Bool} {k r : Nat} (h : (it p k).refs = []) : ¬ Rch p f k r := by
  intro hr
  induction hr with
  | ref h1 => rw [h] at h1; simp at h1
  | step _ _ _ ih => exact ih
theorem rch_mono {p : List It} {f g : It → Bool} (hfg : ∀ x, f x = true → g x = true) {k r : Nat} (h : Rch p f k r) : Rch p g k r := by
  induction h with
  | ref h1 => exact .ref h1
  | step _ h2 h3 ih => exact .step ih (hfg _ h2) h3

theorem flat_same (p : List It) : Same p (flat p) := newTo_same p (flatF p) p.length
theorem flat_it {p : List It} {k : Nat} (hk : k < p.length) : (it (flat p) k).refs = flatF p k := by
  unfold flat
  rw [it_newTo hk, if_pos hk]
theorem flat_mem {p : List It} {k : Nat} {x : Int} (h : x ∈ (it (flat p) k).refs) : ∃ r : Nat, x = r ∧ k < p.length ∧ (it p k).var = true ∧ (needs p k)[r]? = some true := by
  by_cases hk : k < p.length
  · rw [flat_it hk] at h
    unfold flatF at h
    by_cases hv : (it p k).var = true
    · rw [if_pos hv] at h
      unfold ints at h
      obtain ⟨r, h1, rfl⟩ := List.mem_map.1 h
      exact ⟨r, rfl, hk, hv, mem_marks.1 h1⟩
    · rw [if_neg hv] at h; simp at h
  · rw [it_out (by rw [(flat_same p).len]; exact hk)] at h
    simp at h
theorem flat_needs {p : List It} (v s : Nat) (hv : Vn p v) : Nn p v s ↔ Nn (flat p) v s := by
  have hS := flat_same p
  have hk := (own_spec hv.1).1
  unfold Nn
  rw [hS.cnt, hS.own, hS.own, hS.var]
  constructor
  · rintro ⟨h1, h2, h3⟩
    refine ⟨.ref ?_, h2, h3⟩
    rw [flat_it hk]
    unfold flatF
    rw [if_pos hv.2, mem_ints, mem_marks]
    exact needs_iff.2 ⟨h2, h1, h3⟩
  · rintro ⟨h1, h2, h3⟩
    refine ⟨?_, h2, h3⟩
    cases h1 with
    | ref h4 =>
      obtain ⟨r, h5, _, _, h6⟩ := flat_mem h4
      obtain rfl : s = r := by omega
      exact (needs_iff.1 h6).2.1
    | @step a _ _ h5 h6 =>
      obtain ⟨r, _, _, h7, _⟩ := flat_mem h6
      unfold fFunc at h5
      simp only [beq_iff_eq] at h5
      rw [(hS.it _).1] at h5
      unfold It.var at h7
      rw [h5] at h7
      simp at h7
theorem flat_ok {p : List It} (hO : Ok p) : Ok (flat p) ∧ ∀ a, Em p a → Em (flat p) a := by
  have hS := flat_same p
  have hcnt := cnt_le hO.kinds
  have hlen := hO.len
  refine ⟨hO.same hS (fun k h2 => ?_) (fun k r hr => ?_) (fun k hk => ?_) (fun k r hr => ?_) (hO.acy.same hS flat_needs), fun a ha => ha.same hS flat_needs⟩
  · apply Classical.byContradiction
    intro hc
    obtain ⟨x, hx⟩ := List.exists_mem_of_ne_nil _ hc
    obtain ⟨r, _, hk, _, h3⟩ := flat_mem hx
    have h4 := (hO.kinds _ (it_mem hk)).2.2.2.2 h2
    exact rch_none h4 (needs_iff.1 h3).2.1
  · obtain ⟨s, rfl, hk, _, h3⟩ := flat_mem hr
    have := (needs_iff.1 h3).1
    omega
  · rw [flat_it hk]
    unfold flatF
    split
    · rw [ints_length]
      have := marksTo_length (needs p k) (needs p k).length
      unfold marks
      rw [needs_length] at this ⊢
      omega
    · simp
  · obtain ⟨s, h1, hk, _, h3⟩ := flat_mem hr
    obtain rfl : r = s := by omega
    exact rch_mono (fun _ _ => rfl) (needs_iff.1 h3).2.1

set_option maxHeartbeats 1000000 in
set_option maxRecDepth 100000 in
theorem fnFunctions_walk (w : World) (ok : Nat → Prop) (A : Option Addr) (c : Nat) (p : List It) (hp : Its w ok (.slice A p.length c) p) (hw : wt p ≤ 1048576) :
    Calls Tryz.prog 5 #[.slice A p.length c] w (PTrue' w) := by
  have hpl := length_le_wt p
  go_enter Tryz.func5, Tryz.ntmps5
  go_wp2_with (go_at_call 16; refine (zz1_any w ok A c p hp (by omega)).mono ?_; rintro e w1 ⟨b1, rfl, hb1, hg1⟩; clear hb1; cases b1)
  · go_wp2
    go_ret
    exact ⟨rfl, hg1⟩
  · go_wp2_with (first
      | (go_at_call 18; refine (valid_any w2 (fun _ => True) A2 c2 p hp2 (by omega)).mono ?_; rintro e w3 ⟨b3, rfl, hb3, hg3⟩; have Hb3 := Lib.hid hb3; clear hb3; cases b3)
      | (go_at_call 17; refine (read_any w1 ok A c p (hp.gr hg1) (by omega)).mono ?_; rintro e w2 ⟨v2, rfl, hp2, hg2⟩; replace hp2 := hp2.its; obtain ⟨A2, c2, rfl⟩ := hp2.val))
    · go_wp2
      go_ret
      exact ⟨rfl, (hg1.trans hg2).trans hg3⟩
    · have hV := Hb3.out.1 (by trivial)
      have hO := ok_of_valid hV (by omega)
      obtain ⟨hO', he⟩ := flat_ok hO
      have HE := Lib.hid he
      clear he hV
      go_wp2_with (first
        | (go_at_call 25; refine (equal_any w4 (fun _ => True) (fun _ => True) A2 A4 c2 c4 p (flat p) (hp2.gr (hg3.trans hg4)) hq4 hO hO' HE.out).mono ?_; rintro e w5 ⟨rfl, hg5⟩)
        | (go_at_call 27; refine (Flat_any w3 (fun _ => True) A2 c2 p (hp2.gr hg3) hO.kinds hO.refs hO.len (by omega)).mono ?_; rintro e w4 ⟨v4, rfl, hq4, hg4⟩; replace hq4 := hq4.its; obtain ⟨A4, c4, rfl⟩ := hq4.val))
      go_ret
      exact ⟨rfl, (((hg1.trans hg2).trans hg3).trans hg4).trans hg5⟩
end Go.Proofs.YtelfaljidgfphaaGreat
