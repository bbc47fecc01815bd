/-
  The walk of 'Turned' (package spec).
-/
import Derived.Test.YtelfaljidgfphaaGreatN3
import Derived.Deep.RegionLaw
namespace Go.Proofs.YtelfaljidgfphaaGreat
open Go.RowKit

def turnF (p : List It) (k : Nat) : List Int := (it p k).refs.reverse ++ (it p k).refs
def turned (p : List It) : List It := newTo p (turnF p) p.length

def TurnRel (w0 wr : World) (p : List It) (g o c k : Nat) (A' : Option Addr) (c' : Nat) (i : Value) (wx : World) : Prop :=
  ∃ (m : Nat) (u : Value), m ≤ (it p k).refs.length ∧ i = .int .i64 (m : Int) ∧ OutIn w0.heap.size wr.heap.size g o c (newTo p (turnF p) k) k ((it p k).refs.reverse.take m) u wx ∧
    wx.heap[wr.heap.size]? = some (.cells #[.int .i64 (it p k).kind, .int .i64 (it p k).many, .slice A' (it p k).refs.length c'] 47 (0, 0)) ∧ Gr w0 wx ∧ wr.heap.size ≤ wx.heap.size

set_option maxHeartbeats 4000000 in
set_option maxRecDepth 100000 in
theorem Turned_any (w : World) (ok : Nat → Prop) (A : Option Addr) (c : Nat) (p : List It) (hp : Its w ok (.slice A p.length c) p) (hl : p.length ≤ 2097152) (hw : wt p ≤ 4194304) :
    Calls Tryz.prog 38 #[.slice A p.length c] w (PVal fun v w' => OwnIts w' w.heap.size 47 v (turned p) ∧ Gr w w') := by
  obtain ⟨v1, w1, Hr1, ho1, hg1⟩ := copy_items hp hl 26
  by_cases hn0 : p.length = 0
  · have hpz : p = [] := List.eq_nil_of_length_eq_zero hn0
    subst hpz
    obtain ⟨A1, c1, rfl⟩ := ho1.its.val
    go_enter Tryz.func38, Tryz.ntmps38
    go_wp2_with (at_builtin; refine wpList_appended rfl _ _ _ _ rfl rfl rfl Hr1 ?_)
    go_loopw [11] (EmptyRel w1) (fun _ _ => 0)
    case atStart => exact ⟨rfl, rfl⟩
    case round =>
      obtain ⟨rfl, rfl⟩ := hrel
      go_wp2
      go_ret
      exact ⟨_, rfl, ho1, hg1⟩
  · obtain ⟨vs1, hv1, hv2, hv3⟩ := ho1
    obtain ⟨g, o, c1, cur1, rfl, hgge, hgrow, hcap1, hsz1, -⟩ := hv2.at_ (by omega)
    have ho1' : OwnIts w1 w.heap.size 47 (.slice (some ⟨g, o, none⟩) p.length c1) (newTo p (turnF p) 0) := by rw [newTo_zero]; exact ⟨vs1, hv1, hv2, hv3⟩
    clear hv2 hv3
    go_enter Tryz.func38, Tryz.ntmps38
    go_wp2_with (at_builtin; refine wpList_appended rfl _ _ _ _ rfl rfl rfl Hr1 ?_)
    go_loopw [11] (NewRel w p (turnF p) g o c1) (fun i _ => p.length - (intOf i).toNat)
    case atStart => exact ⟨0, by omega, rfl, ho1', hg1⟩
    case round =>
      obtain ⟨k, hkp, rfl, hown, hgr⟩ := hrel
      clear ho1'
      by_cases hlt : k < p.length
      · obtain ⟨b, oo, A', c', rfl, -, -, q0, q1, q2, hrefs⟩ := hp.at_ hlt
        replace q0 := hgr.cell q0
        replace q1 := hgr.cell q1
        replace q2 := hgr.cell q2
        have hnl : (newTo p (turnF p) k).length = p.length := newTo_length _ _ _
        have hkl : k < (newTo p (turnF p) k).length := by rw [hnl]; exact hlt
        obtain ⟨cv, ⟨curR, rowR⟩, cellR, frozR⟩ := hown.cellAt hkl
        have hgl : g < wr.heap.size := heap_lt rowR
        have hout := OutIn.start (by rw [hnl]; exact hown) hkl
        have hf2 := fr_set wr g (o + k * 3 + 2) (.slice none 0 0)
        have hg2' : Gr w ((wr.setCell ⟨g, o + k * 3 + 2, none⟩ (.slice none 0 0)).alloc (.cells #[.int .i64 (it p k).kind, .int .i64 (it p k).many, .slice A' (it p k).refs.length c'] 47)) := (hgr.step hf2 (fun b hb => by omega)).alloc _
        have hbx := heap_alloc_new (wr.setCell ⟨g, o + k * 3 + 2, none⟩ (.slice none 0 0)) (.cells #[.int .i64 (it p k).kind, .int .i64 (it p k).many, .slice A' (it p k).refs.length c'] 47)
        simp only [size_set] at hbx
        have z0 := (cell_row hbx 0).trans rfl
        have z1 := (cell_row hbx 1).trans rfl
        have z2 := (cell_row hbx 2).trans rfl
        have hki : (k : Int) < (p.length : Int) := by omega
        have hrl := refs_le_wt hlt
        go_wp2
        go_loopw [23] (TurnRel w wr p g o c1 k A' c') (fun i _ => (it p k).refs.length - (intOf i).toNat)
        case atStart => exact ⟨0, _, by omega, rfl, by simpa using hout.gr ((Gr.refl _).alloc _), hbx, hg2', by simp⟩
        case round =>
          rename World => wx
          clear hout hbx z0 z1 z2 hg2' cellR frozR q0 q1 q2
          obtain ⟨m, u, hm, rfl, hout, hbx, hgx, hsx⟩ := hrel
          have z2 := (cell_row hbx 2).trans rfl
          have hxb := heap_lt hbx
          obtain ⟨⟨cr7, hrow7⟩, hcell7, hfroz7, hgB⟩ := hout.cellAt hkl
          have hout' := hout
          obtain ⟨vs7, -, -, -, how7, hgk7⟩ := hout'
          have hug : ∀ b, u.ownBlock = some b → wr.heap.size ≤ b ∧ ∃ cr', wx.heap[b]? = some (.cells cr' 3 (0, 0)) := fun b hb => ⟨(how7.blk b hb).1, how7.row hb⟩
          have hglx : g < wx.heap.size := heap_lt hrow7
          have hne1 : ¬ g = wx.heap.size := by omega
          have hne2 : ¬ wx.heap.size = g := by omega
          have hne3 : ¬ wr.heap.size = wx.heap.size := by omega
          have hne4 : ¬ wx.heap.size = wr.heap.size := by omega
          by_cases hml : m < (it p k).refs.length
          · obtain ⟨j, hj⟩ : ∃ j, j = (it p k).refs.length - 1 - m := ⟨_, rfl⟩
            have hjl : j < (it p k).refs.length := by omega
            obtain ⟨x, hx⟩ := get_lt hjl
            obtain ⟨b2, o2, rfl, -, hb2, hc⟩ := (hrefs.gr hgx).at_ hjl
            have cx := hc _ hx
            obtain ⟨L1, hL1⟩ : ∃ L1, L1 = (it p k).refs.length - 1 := ⟨_, rfl⟩
            have ej : IntKind.i64.wrap (((it p k).refs.length : Int) - 1) = (L1 : Int) := by simp [IntKind.wrap, IntKind.bits, IntKind.signed]; omega
            have ej0 : IntKind.i64.wrap ((L1 : Int) - (m : Int)) = (j : Int) := by simp [IntKind.wrap, IntKind.bits, IntKind.signed]; omega
            have hji : (j : Int) < ((it p k).refs.length : Int) := by omega
            have hrev : (it p k).refs.reverse[m]? = some x := by rw [List.getElem?_reverse hml, ← hj]; exact hx
            have Htk := Lib.hid (take_snoc hrev)
            have htl : ((it p k).refs.reverse.take m).length = m := by rw [List.length_take, List.length_reverse]; omega
            obtain ⟨v9, w9, Hr9, ho9, hf9, -, -, -⟩ := app1 (P := Tryz.prog) (w := wx.drew) (t := 29) (ty := 29) elem3 Tryz.underlying29 (how7.gr (Gr.refl wx).drew) (.int .i64 x) rfl (by exact hsx) (by omega) (by omega)
            replace hf9 : Fr (fun b => u.ownBlock = some b) wx w9 := ⟨hf9.os, hf9.tape, hf9.output, hf9.size, hf9.block⟩
            obtain ⟨A9, c9, rfl⟩ := ho9.val
            have hrow9 := hf9.heap hrow7 (fun e => by obtain ⟨_, cr', h⟩ := hug _ e; exact ne_cells h hrow7 (by decide) rfl)
            have hcell9 := hf9.cell hcell7 (fun e => by obtain ⟨_, cr', h⟩ := hug _ e; exact ne_cells h hrow7 (by decide) rfl)
            have hfroz9 := frozen_row hrow9
            have hbx9 := hf9.heap hbx (fun e => by obtain ⟨_, cr', h⟩ := hug _ e; exact ne_cells h hbx (by decide) rfl)
            have hg9 : Gr w w9 := hgx.step hf9 (fun b hb => by have := (hug b hb).1; have := hgr.size; omega)
            have hmore := hout.more (cur' := ((it p k).refs.reverse.take m) ++ [x]) (u' := .slice A9 (((it p k).refs.reverse.take m).length + 1) c9) (w' := w9) hkl (by simpa [intV] using ho9) hf9
            have Hmore := Lib.hid hmore
            have j8 : ∀ o', (wx.alloc o').cell? ⟨g, o + k * 3 + 2, none⟩ = some u := fun o' => Gr.cell ((Gr.refl wx).alloc o') hcell7
            rw [htl] at Hr9 Hmore
            clear hmore how7 hx hc hrev hj hL1
            go_wp2
            go_region_law (first | (refine step_appended rfl _ _ _ _ rfl rfl rfl Hr9 ?_))
            all_goals (
              go_wp2
              go_roundw
              case rel =>
                refine ⟨m + 1, .slice A9 (m + 1) c9, by omega, by go_num, ?_, (fr_set w9 g _ _).heap hbx9 (by omega), hg9.step (fr_set _ _ _ _) (fun b hb => by omega), by have := hf9.size; rw [size_set]; omega⟩
                rw [Htk.out]
                exact Hmore.out
              case measure => simp [intOf]; omega)
          · have hm0 : m = (it p k).refs.length := by omega
            subst hm0
            have hrl0 : (it p k).refs.reverse.take (it p k).refs.length = (it p k).refs.reverse := List.take_of_length_le (by simp)
            have hrr : (it p k).refs.reverse.length = (it p k).refs.length := List.length_reverse
            rw [hrl0] at hout how7
            obtain ⟨v9, w9, hr9, ho9, hf9, -, -⟩ := run_append (P := Tryz.prog) (t := 29) (t' := 29) (ty := 29) elem3 Tryz.underlying29 Tryz.underlying29 (how7.gr (Gr.refl wx).drew) ((hrefs.gr hgx).gr (Gr.refl wx).drew) (by simp [intV, Value.oneCell']) (by simp only [maxLen]; omega) (by omega) (fun b hb => Nat.le_trans hsx hb)
            replace hf9 : Fr (fun b => u.ownBlock = some b) wx w9 := ⟨hf9.os, hf9.tape, hf9.output, hf9.size, hf9.block⟩
            obtain ⟨A9, c9, rfl⟩ := ho9.val
            have Hr9 := Lib.hid hr9
            have hrow9 := hf9.heap hrow7 (fun e => by obtain ⟨_, cr', h⟩ := hug _ e; exact ne_cells h hrow7 (by decide) rfl)
            have hcell9 := hf9.cell hcell7 (fun e => by obtain ⟨_, cr', h⟩ := hug _ e; exact ne_cells h hrow7 (by decide) rfl)
            have hfroz9 := frozen_row hrow9
            have hg9 : Gr w w9 := hgx.step hf9 (fun b hb => by have := (hug b hb).1; have := hgr.size; omega)
            have hmore := hout.more (cur' := turnF p k) (u' := .slice A9 ((it p k).refs.reverse.length + (it p k).refs.length) c9) (w' := w9) hkl (by
              unfold turnF
              rw [List.length_append, List.map_append]
              exact ho9) hf9
            have hdone := hmore.done hkl
            rw [hnl, newTo_set hlt, newTo_succ hlt] at hdone
            have Hdone := Lib.hid hdone
            rw [hrr] at Hr9 Hdone
            clear hmore hdone how7 hr9 hrl0
            go_wp2
            go_region_law (first | (refine step_appended rfl _ _ _ _ rfl rfl rfl Hr9 ?_))
            all_goals (
              go_wp2
              go_roundw
              case rel => exact ⟨k + 1, by omega, by go_num, Hdone.out, hg9.step (fr_set _ _ _ _) (fun b hb => by omega)⟩
              case measure => simp [intOf]; omega)
      · have hk0 : k = p.length := by omega
        subst hk0
        go_wp2
        go_ret
        exact ⟨_, rfl, hown, hgr⟩
end Go.Proofs.YtelfaljidgfphaaGreat
