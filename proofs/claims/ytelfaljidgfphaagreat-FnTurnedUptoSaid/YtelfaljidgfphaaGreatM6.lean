/-
  The walk of FnTurned.
-/
import Derived.Test.YtelfaljidgfphaaGreatN4
import Derived.Test.YtelfaljidgfphaaGreatM2
namespace Go.Proofs.YtelfaljidgfphaaGreat
open Go.RowKit

theorem turn_same (p : List It) : Same p (turned p) := newTo_same p (turnF p) p.length
theorem turn_mem {p : List It} {k : Nat} {x : Int} : x ∈ (it (turned p) k).refs ↔ x ∈ (it p k).refs := by
  by_cases hk : k < p.length
  · unfold turned
    rw [it_newTo hk, if_pos hk]
    unfold turnF
    simp
  · have h1 : it p k = ⟨0, 0, []⟩ := by
      unfold it
      rw [List.getD_eq_getElem?_getD, List.getElem?_eq_none (by omega)]; rfl
    have h2 : it (turned p) k = ⟨0, 0, []⟩ := by
      unfold it
      rw [List.getD_eq_getElem?_getD, List.getElem?_eq_none (by rw [(turn_same p).len]; omega)]; rfl
    rw [h1, h2]
theorem turn_rch {p q : List It} (h : Same p q) (hE : ∀ k x, x ∈ (it q k).refs ↔ x ∈ (it p k).refs) (k r : Nat) : Rch p fFunc k r ↔ Rch q fFunc k r := by
  have hf : ∀ a, fFunc (it q (own q a)) = fFunc (it p (own p a)) := fun a => by unfold fFunc; rw [h.own, (h.it _).1]
  constructor
  · intro hr
    induction hr with
    | ref h1 => exact .ref ((hE _ _).2 h1)
    | step _ h2 h3 ih => exact .step ih (by rw [hf]; exact h2) (by rw [h.own]; exact (hE _ _).2 h3)
  · intro hr
    induction hr with
    | ref h1 => exact .ref ((hE _ _).1 h1)
    | step _ h2 h3 ih => exact .step ih (by rw [← hf]; exact h2) (by rw [h.own] at h3; exact (hE _ _).1 h3)
theorem turn_ok {p : List It} (hO : Ok p) (hw : ∀ k, k < p.length → (it p k).refs.length ≤ 4194304) : Ok (turned p) ∧ ∀ a, Em p a → Em (turned p) a := by
  have hS := turn_same p
  have hN : ∀ v s, Vn p v → (Nn p v s ↔ Nn (turned p) v s) := fun v s _ => by
    unfold Nn
    rw [hS.cnt, hS.own, hS.own, hS.var, turn_rch hS (fun _ _ => turn_mem)]
  refine ⟨hO.same hS (fun k h2 => ?_) (fun k r hr => ?_) (fun k hk => ?_) (fun k r hr => .ref (turn_mem.1 hr)) (hO.acy.same hS hN), fun _ ha => ha.same hS hN⟩
  · apply Classical.byContradiction
    intro hc
    obtain ⟨x, hx⟩ := List.exists_mem_of_ne_nil _ hc
    have h3 := turn_mem.1 hx
    by_cases hk : k < p.length
    · rw [(hO.kinds _ (it_mem hk)).2.2.2.2 h2] at h3; simp at h3
    · have h1 : it p k = ⟨0, 0, []⟩ := by
        unfold it
        rw [List.getD_eq_getElem?_getD, List.getElem?_eq_none (by omega)]; rfl
      rw [h1] at h3; simp at h3
  · have h3 := turn_mem.1 hr
    by_cases hk : k < p.length
    · exact hO.refs _ (it_mem hk) r h3
    · have h1 : it p k = ⟨0, 0, []⟩ := by
        unfold it
        rw [List.getD_eq_getElem?_getD, List.getElem?_eq_none (by omega)]; rfl
      rw [h1] at h3; simp at h3
  · unfold turned
    rw [it_newTo hk, if_pos hk]
    have h1 := hw k hk
    show (turnF p k).length ≤ _
    unfold turnF
    rw [List.length_append, List.length_reverse]
    omega

set_option maxHeartbeats 1000000 in
set_option maxRecDepth 100000 in
theorem fnTurned_walk (w : World) (ok : Nat → Prop) (A : Option Addr) (c : Nat) (p : List It) (hp : Its w ok (.slice A p.length c) p) (hw : wt p ≤ 1048576) :
    Calls Tryz.prog 14 #[.slice A p.length c] w (PTrue' w) := by
  have hpl := length_le_wt p
  go_enter Tryz.func14, Tryz.ntmps14
  go_wp2_with (go_at_call 16; refine (zz1_any w ok A c p hp (by omega)).mono ?_; rintro e w1 ⟨b1, rfl, hb1, hg1⟩; clear hb1; cases b1)
  · go_wp2
    go_ret
    exact ⟨rfl, hg1⟩
  · go_wp2_with (first
      | (go_at_call 18; refine (valid_any w2 (fun _ => True) A2 c2 p hp2 (by omega)).mono ?_; rintro e w3 ⟨b3, rfl, hb3, hg3⟩; have Hb3 := Lib.hid hb3; clear hb3; cases b3)
      | (go_at_call 17; refine (read_any w1 ok A c p (hp.gr hg1) (by omega)).mono ?_; rintro e w2 ⟨v2, rfl, hp2, hg2⟩; replace hp2 := hp2.its; obtain ⟨A2, c2, rfl⟩ := hp2.val))
    · go_wp2
      go_ret
      exact ⟨rfl, (hg1.trans hg2).trans hg3⟩
    · have hV := Hb3.out.1 (by trivial)
      have hO := ok_of_valid hV (by omega)
      obtain ⟨hO', he⟩ := turn_ok hO (fun k hk => by have := refs_le_wt hk; omega)
      have HE := Lib.hid he
      clear he hV
      go_wp2_with (first
        | (go_at_call 25; refine (equal_any w4 (fun _ => True) (fun _ => True) A2 A4 c2 c4 p (turned p) (hp2.gr (hg3.trans hg4)) hq4 hO hO' HE.out).mono ?_; rintro e w5 ⟨rfl, hg5⟩)
        | (go_at_call 38; refine (Turned_any w3 (fun _ => True) A2 c2 p (hp2.gr hg3) hO.len (by omega)).mono ?_; rintro e w4 ⟨v4, rfl, hq4, hg4⟩; replace hq4 := hq4.its; obtain ⟨A4, c4, rfl⟩ := hq4.val))
      go_ret
      exact ⟨rfl, (((hg1.trans hg2).trans hg3).trans hg4).trans hg5⟩
end Go.Proofs.YtelfaljidgfphaaGreat
