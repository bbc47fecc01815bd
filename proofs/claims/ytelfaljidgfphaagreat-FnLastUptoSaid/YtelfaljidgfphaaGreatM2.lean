/-
  The walk of FnOrder.
-/
import Derived.Test.YtelfaljidgfphaaGreatL1
import Derived.Test.YtelfaljidgfphaaGreatN1
namespace Go.Proofs.YtelfaljidgfphaaGreat
open Go.RowKit

theorem ok_of_valid {p : List It} (h : Valid p) (hw : wt p ≤ 4194304) : Ok p where
  len := by have := h.1.1; omega
  kinds := h.1.2.1
  refs := h.1.2.2.1
  wt k hk := by have := refs_le_wt hk; omega
  const r hr h4 := by
    obtain ⟨h1, h2, h3⟩ := own_spec hr
    have h5 := h.1.2.2.2 (own p r) h1 h4
    have hn : (it p (own p r)).n = 1 := by
      unfold kindAt at h4
      simp [It.n, h4]
    have : start p (own p r) = r := by omega
    rwa [this] at h5
  acy := h.acy

theorem iniOf_ini {p : List It} {ord : List Nat} (h : StepsTo p ord) : iniOf p ord = (ord.filter fun k => (it p k).ini).map (objs p) := by
  unfold iniOf
  congr 1
  refine List.filter_congr fun k hk => ?_
  have hv := (h.lt k hk).2
  unfold It.var at hv
  unfold It.ini
  simp only [Bool.or_eq_true, beq_iff_eq] at hv
  rw [Bool.eq_iff_iff]
  simp
  omega

/-- A law's end: true; nothing that was there has turned. -/
def PTrue' (w : World) (e : Ending) (w' : World) : Prop := e = .returned (.bool true) ∧ Gr w w'

set_option maxHeartbeats 1000000 in
set_option maxRecDepth 100000 in
theorem fnOrder_walk (w : World) (ok : Nat → Prop) (A : Option Addr) (c : Nat) (p : List It) (hp : Its w ok (.slice A p.length c) p) (hw : wt p ≤ 1048576) :
    Calls Tryz.prog 9 #[.slice A p.length c] w (PTrue' w) := by
  have hpl := length_le_wt p
  have hwk := works_any
  go_enter Tryz.func9, Tryz.ntmps9
  go_wp2_with (go_at_call 16; refine (zz1_any w ok A c p hp (by omega)).mono ?_; rintro e w1 ⟨b1, rfl, hb1, hg1⟩; clear hb1; cases b1)
  · go_wp2
    go_ret
    exact ⟨rfl, hg1⟩
  · go_wp2_with (first
      | (go_at_call 18; refine (valid_any w2 (fun _ => True) A2 c2 p hp2 (by omega)).mono ?_; rintro e w3 ⟨b3, rfl, hb3, hg3⟩; have Hb3 := Lib.hid hb3; clear hb3; cases b3)
      | (go_at_call 17; refine (read_any w1 ok A c p (hp.gr hg1) (by omega)).mono ?_; rintro e w2 ⟨v2, rfl, hp2, hg2⟩; replace hp2 := hp2.its; obtain ⟨A2, c2, rfl⟩ := hp2.val))
    · go_wp2
      go_ret
      exact ⟨rfl, (hg1.trans hg2).trans hg3⟩
    · have hV := Hb3.out.1 (by trivial)
      have hO := ok_of_valid hV (by omega)
      obtain ⟨hF, ord, hS, hFu⟩ := hV
      have hk := hO.kinds
      have hr := hO.refs
      have hlen := hO.len
      have hcnt := cnt_le hk
      have hg123 := (hg1.trans hg2).trans hg3
      go_wp2_with (go_at_call 28; refine (Lone_any w3 (fun _ => True) A2 c2 p (hp2.gr hg3) hk hr hlen (by omega)).mono ?_; rintro e w4 ⟨b4, rfl, hb4, hg4⟩; have Hb4 := Lib.hid hb4; clear hb4; cases b4)
      · go_wp2
        go_ret
        exact ⟨rfl, hg123.trans hg4⟩
      · have hLo := Lib.hid (Hb4.out.1 (by trivial))
        have HS := Lib.hid hS
        have HF := Lib.hid hFu
        clear hS hFu
        go_wp2_with (first
          | (go_at_call 24; refine (hwk _).mono ?_; rintro e w8 ⟨rfl, hg8⟩)
          | (go_at_call 21; refine hcmp.mono ?_; rintro e w7 ⟨rfl, hq7⟩)
          | (go_at_call 33; refine (Order_any w5 (fun _ => True) A2 c2 p (hp2.gr ((hg3.trans hg4).trans hg5)) hk hr hlen (by omega)).mono ?_; rintro e w6 ⟨v6, rfl, ord6, hS6, hst6, hl6, hg6⟩; replace hl6 := hl6.lists; obtain rfl := hS6.unique hst6 HS.out HF.out.stuck; have he6 : iniOf p ord6 = l5 := (by obtain ⟨L, hL, fL, rfl⟩ := hem5; rw [iniOf_ini hS6, order_law hk hr hLo.out hS6 HF.out hL fL]); rw [he6] at hl6; obtain ⟨A6, c6, rfl⟩ := hl6.val; have hsz := Em.size hk hem5; have hcmp := lists_any w6 (fun _ => True) (fun _ => True) A5 A6 c5 c6 _ _ (hl5.gr hg6) hl6 (by rw [lists_length]; omega) (fun x hx => by obtain ⟨y, hy, rfl⟩ := List.mem_map.1 hx; have := hsz.2 y hy; rw [ints_length]; omega); rw [decide_eq_true rfl] at hcmp; clear hsz)
          | (go_at_call 20; refine (order_law_any w4 (fun _ => True) A2 c2 p (hp2.gr (hg3.trans hg4)) hO).mono ?_; rintro e w5 ⟨v5, l5, rfl, hem5, hl5, hg5⟩; obtain ⟨A5, c5, rfl⟩ := hl5.val))
        go_ret
        exact ⟨rfl, (((hg123.trans hg4).trans hg5).trans hg6).trans (hq7.gr.trans hg8)⟩
end Go.Proofs.YtelfaljidgfphaaGreat
