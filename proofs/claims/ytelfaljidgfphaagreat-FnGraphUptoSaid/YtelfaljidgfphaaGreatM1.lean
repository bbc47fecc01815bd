/-
  The walk of FnGraph.
-/
import Derived.Test.YtelfaljidgfphaaGreatL1
namespace Go.Proofs.YtelfaljidgfphaaGreat
open Go.RowKit

/-- A law's end: true; nothing that was there has turned. -/
def PTrue (w : World) (e : Ending) (w' : World) : Prop := e = .returned (.bool true) ∧ Gr w w'

theorem specGraph_size (p : List It) (n : Nat) : (specGraph p n).length = n := by simp [specGraph]

theorem specGraph_row (p : List It) (hc : cnt p ≤ 209715200) : ∀ x ∈ specGraph p (cnt p), x.length ≤ 9223372036854775807 := by
  intro x hx
  unfold specGraph at hx
  obtain ⟨r, _, rfl⟩ := List.mem_map.1 hx
  unfold specAt
  split
  · simp
  · rw [ints_length]
    have h := List.length_filter_le (fun y => ((reach p fFunc (own p r)).getD y false) && decide (kindAt p y ≠ 3)) (List.range (cnt p))
    rw [List.length_range] at h
    unfold specRow
    omega

set_option maxHeartbeats 1000000 in
set_option maxRecDepth 100000 in
theorem fnGraph_walk (w : World) (ok : Nat → Prop) (A : Option Addr) (c : Nat) (p : List It) (hp : Its w ok (.slice A p.length c) p) (hw : wt p ≤ 1048576) :
    Calls Tryz.prog 15 #[.slice A p.length c] w (PTrue w) := by
  have hpl := length_le_wt p
  have hwk := works_any
  go_enter Tryz.func15, Tryz.ntmps15
  go_wp2_with (go_at_call 16; refine (zz1_any w ok A c p hp (by omega)).mono ?_; rintro e w1 ⟨b1, rfl, hb1, hg1⟩; clear hb1; cases b1)
  · go_wp2
    go_ret
    exact ⟨rfl, hg1⟩
  · go_wp2_with (first
      | (go_at_call 35; refine (Fit_any w2 (fun _ => True) A2 c2 p hp2 (by omega)).mono ?_; rintro e w3 ⟨b3, rfl, hb3, hg3⟩; have Hb3 := Lib.hid hb3; clear hb3; cases b3)
      | (go_at_call 17; refine (read_any w1 ok A c p (hp.gr hg1) (by omega)).mono ?_; rintro e w2 ⟨v2, rfl, hp2, hg2⟩; replace hp2 := hp2.its; obtain ⟨A2, c2, rfl⟩ := hp2.val))
    · go_wp2
      go_ret
      exact ⟨rfl, (hg1.trans hg2).trans hg3⟩
    · obtain ⟨hl, hk, hr, -⟩ := Hb3.out.1 (by trivial)
      have hcnt := cnt_le hk
      have hg123 := (hg1.trans hg2).trans hg3
      have hit : Its w3 ok (.slice A p.length c) p := hp.gr hg123
      go_wp2_with (first
        | (go_at_call 24; refine (hwk _).mono ?_; rintro e w7 ⟨rfl, hg7⟩)
        | (go_at_call 21; refine hcmp.mono ?_; rintro e w6 ⟨rfl, hq6⟩)
        | (go_at_call 40; refine (specGraph_any w4 (fun _ => True) A2 c2 p (hp2.gr (hg3.trans hg4)) hk hr (by omega) (by omega)).mono ?_; rintro e w5 ⟨v5, rfl, hl5, hg5⟩; obtain ⟨A5, c5, rfl⟩ := hl5.val; have hcmp := lists_any w5 (fun _ => True) (fun _ => True) A4 A5 c4 c5 _ _ (hl4.gr hg5) hl5 (by rw [specGraph_size]; omega) hsz; rw [decide_eq_true rfl] at hcmp)
        | (go_at_call 39; refine (implGraph_any w3 ok A c p hit hk hr (by omega) (by omega)).mono ?_; rintro e w4 ⟨v4, lg, fs, ks, rfl, hg4, hl4, hlg, hfd, hfs, hinv⟩; rw [graph_law hr hlg hfs hinv] at hl4; obtain ⟨A4, c4, rfl⟩ := hl4.val; have hsz : ∀ x ∈ specGraph p (cnt p), x.length ≤ 9223372036854775807 := specGraph_row p (by omega)))
      go_ret
      exact ⟨rfl, (((hg123.trans hg4).trans hg5).trans hq6.gr).trans hg7⟩
end Go.Proofs.YtelfaljidgfphaaGreat
