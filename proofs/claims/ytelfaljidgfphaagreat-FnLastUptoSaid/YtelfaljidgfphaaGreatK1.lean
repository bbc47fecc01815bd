/-
  The walk of package spec's Graph.
-/
import Derived.Test.YtelfaljidgfphaaGreatJ6
namespace Go.Proofs.YtelfaljidgfphaaGreat
open Go.RowKit

/-- The objects below j on which r depends. -/
noncomputable def specRow (p : List It) (k j : Nat) : List Nat := (List.range j).filter fun y => ((reach p fFunc k).getD y false) && decide (kindAt p y ≠ 3)
noncomputable def specAt (p : List It) (r : Nat) : List Int := if kindAt p r = 3 then [] else ints (specRow p (own p r) (cnt p))
noncomputable def specGraph (p : List It) (m : Nat) : List (List Int) := (List.range m).map (specAt p)

theorem specRow_succ (p : List It) (k j : Nat) {b : Bool} (h : (reach p fFunc k)[j]? = some b) : specRow p k (j + 1) = specRow p k j ++ (if b && decide (kindAt p j ≠ 3) then [j] else []) := by
  unfold specRow
  rw [List.range_succ, List.filter_append]
  congr 1
  rw [List.filter_cons, List.filter_nil]
  simp [List.getD_eq_getElem?_getD, h]

def SpRel (w : World) (p : List It) (v i : Value) (wr : World) : Prop :=
  ∃ k : Nat, k ≤ cnt p ∧ i = .int .i64 (k : Int) ∧ OwnLists wr w.heap.size v (specGraph p k) ∧ Gr w wr
def SpRel2 (w0 : World) (p : List It) (m : Nat) (v i : Value) (wr : World) : Prop :=
  ∃ j : Nat, j ≤ cnt p ∧ i = .int .i64 (j : Int) ∧ Own wr (fun b => w0.heap.size ≤ b) 3 1 v (ints (specRow p m j)).length ((ints (specRow p m j)).map intV) ∧ Gr w0 wr

set_option maxHeartbeats 2000000 in
set_option maxRecDepth 100000 in
theorem specGraph_any (w : World) (ok : Nat → Prop) (A : Option Addr) (c : Nat) (p : List It) (hp : Its w ok (.slice A p.length c) p) (hk : KOk p) (hr : ROk p) (hl : p.length ≤ 2097152) (hw : wt p ≤ 4194304) :
    Calls Tryz.prog 40 #[.slice A p.length c] w (PVal fun v w' => Lists w' (fun _ => True) v (specGraph p (cnt p)) ∧ Gr w w') := by
  have hcnt := cnt_le hk
  have hcnt : cnt p ≤ 209715200 := by omega
  go_enter Tryz.func40, Tryz.ntmps40
  go_wp2_with (go_at_call 46; refine (owners_any w ok _ c p hp hk hl).mono ?_; rintro e w1 ⟨v1, rfl, ho1, hg1⟩; obtain ⟨Ao, co, rfl⟩ := ho1.val)
  go_loopw [4, 14] (SpRel w1 p) (fun _ i _ => cnt p - (intOf i).toNat)
  case atStart => exact ⟨0, by omega, rfl, OwnLists.nil _ _, Gr.refl _⟩
  case round =>
    obtain ⟨k, hkc, rfl, hown, hgr⟩ := hrel
    by_cases hlt : k < cnt p
    · obtain ⟨hol, hos1, hos2⟩ := own_spec hlt
      obtain ⟨bo, oo, rfl, -, -, hof⟩ := Ints.at_ (k := k) (ho1.ints.gr hgr) (by simpa [ints, cnt] using hlt)
      have cof := hof (own p k) (by simp [ints, owners_getD hlt])
      obtain ⟨b9, o9, A9, c9, rfl, -, -, q0, q1, q2, -⟩ := (hp.gr (hg1.trans hgr)).at_ hol
      have hsz := hgr.size
      have hsg : (specGraph p k).length = k := by simp [specGraph]
      have hsucc : specGraph p (k + 1) = specGraph p k ++ [specAt p k] := by simp [specGraph, List.range_succ]
      have Hsucc := Lib.hid hsucc
      clear hof hsucc
      by_cases h3 : (it p (own p k)).kind = 3
      · have hb3 : ((it p (own p k)).kind != 3) = false := by simp [h3]
        have hsa : Hid (specAt p k = []) := by show _ = _; unfold specAt kindAt; rw [if_pos h3]
        obtain ⟨v5, w5, Hr5, hown5, hf5, -⟩ := hown.push (x := []) (u := .slice none 0 0) (Arr.nil _ _ _) (t := 32) (ty := 32) Tryz.underlying32 hsz (by omega)
        clear h3 hsg
        go_wp2_with (at_builtin; refine wpList_appended rfl _ _ _ _ rfl rfl rfl Hr5 ?_)
        go_roundw
        case rel => exact ⟨k + 1, by omega, by go_num, by rw [Hsucc.out, hsa.out]; exact hown5, hgr.own hf5 (Nat.le_refl _)⟩
        case measure => simp [intOf]; omega
      · have hb3 : ((it p (own p k)).kind != 3) = true := by simp [h3]
        have hsa : Hid (specAt p k = ints (specRow p (own p k) (cnt p))) := by show _ = _; unfold specAt kindAt; rw [if_neg h3]
        clear h3
        go_wp2_with (go_at_call 49; refine (reached_any 55 fFunc tells_func' wr ok _ c p (own p k) (hp.gr (hg1.trans hgr)) hk hr hl hw hol).mono ?_; rintro e w2 ⟨v2, rfl, ho2, hg2⟩; obtain ⟨Av, cv, rfl⟩ := ho2.val)
        go_loopw [7, 28] (SpRel2 w2 p (own p k)) (fun _ i _ => cnt p - (intOf i).toNat)
        case atStart => exact ⟨0, by omega, rfl, by simpa [specRow, ints] using Own.nil _ _ _ _, Gr.refl _⟩
        case round =>
          rename World => w3
          obtain ⟨j, hjc, rfl, hown3, hgr3⟩ := hrel
          have hg13 := (hgr.trans hg2).trans hgr3
          have hsz3 := hgr3.size
          have hsz2 := hg2.size
          have hsl : (ints (specRow p (own p k) j)).length ≤ cnt p := by
            rw [ints_length]
            exact Nat.le_trans (List.length_filter_le _ _) (by simpa using hjc)
          obtain ⟨A7, c7, rfl⟩ := hown3.val
          by_cases hjl : j < cnt p
          · obtain ⟨hjo, hjs1, hjs2⟩ := own_spec hjl
            obtain ⟨bb, hbb⟩ := get_lt (l := reach p fFunc (own p k)) (k := j) (by rw [reach_length]; exact hjl)
            obtain ⟨g2, og2, cap2, cur2, he2, -, -, -, -, hcw2⟩ := (ho2.gr hgr3).at_ (by omega)
            simp only [Value.slice.injEq, true_and] at he2
            obtain ⟨rfl, rfl⟩ := he2
            have cb := hcw2 j (.bool bb) (by rw [List.getElem?_map, hbb]; rfl)
            obtain ⟨bo', oo', heo, -, -, hof3⟩ := Ints.at_ (k := j) (ho1.ints.gr hg13) (by simpa [ints, cnt] using hjl)
            simp only [Option.some.injEq, Addr.mk.injEq, and_true] at heo
            obtain ⟨rfl, rfl⟩ := heo
            have cof3 := hof3 (own p j) (by simp [ints, owners_getD hjl])
            obtain ⟨b8, o8, A8, c8, he8, -, -, r0, r1, r2, -⟩ := (hp.gr (hg1.trans hg13)).at_ hjo
            simp only [Option.some.injEq, Addr.mk.injEq, and_true] at he8
            obtain ⟨rfl, rfl⟩ := he8
            have Hs := Lib.hid (specRow_succ p (own p k) j hbb)
            clear hof3 hcw2 hbb
            cases bb with
            | false =>
              go_wp2
              go_roundw
              case rel =>
                refine ⟨j + 1, by omega, by go_num, ?_, hgr3⟩
                rw [Hs.out, Bool.false_and, if_neg (by simp), List.append_nil]
                exact hown3
              case measure => simp [intOf]; omega
            | true =>
              by_cases hj3 : (it p (own p j)).kind = 3
              · have hjb : ((it p (own p j)).kind != 3) = false := by simp [hj3]
                have Hk : Hid (decide (kindAt p j ≠ 3) = false) := by show _ = _; simp [kindAt, hj3]
                clear hj3
                go_wp2
                go_roundw
                case rel =>
                  refine ⟨j + 1, by omega, by go_num, ?_, hgr3⟩
                  rw [Hs.out, Hk.out, Bool.and_false, if_neg (by simp), List.append_nil]
                  exact hown3
                case measure => simp [intOf]; omega
              · have hjb : ((it p (own p j)).kind != 3) = true := by simp [hj3]
                have Hk : Hid (decide (kindAt p j ≠ 3) = true) := by show _ = _; simp [kindAt, hj3]
                clear hj3
                obtain ⟨v6, w6, Hr6, hown6, -, hf6, -, -⟩ := app1 (P := Tryz.prog) (t := 29) (ty := 29) elem3 Tryz.underlying29 hown3 (.int .i64 (j : Int)) rfl hsz3 (by omega) (by omega)
                go_wp2_with (at_builtin; refine wpList_appended rfl _ _ _ _ rfl rfl rfl Hr6 ?_)
                go_roundw
                case rel =>
                  refine ⟨j + 1, by omega, by go_num, ?_, hgr3.own hf6 (Nat.le_refl _)⟩
                  rw [Hs.out, Hk.out, Bool.and_true, if_pos rfl]
                  simpa [ints, intV] using hown6
                case measure => simp [intOf]; omega
          · have hj0 : j = cnt p := by omega
            subst hj0
            obtain ⟨v5, w5, Hr5, hown5, hf5, -⟩ := (hown.gr (hg2.trans hgr3)).push (x := ints (specRow p (own p k) (cnt p))) (u := .slice A7 (ints (specRow p (own p k) (cnt p))).length c7) (hown3.ints.mono (fun b _ hb e => by have := hown.lt b e; omega)) (t := 32) (ty := 32) Tryz.underlying32 (by omega) (by omega)
            clear hsg
            go_wp2_with (at_builtin; refine wpList_appended rfl _ _ _ _ rfl rfl rfl Hr5 ?_)
            go_roundw
            case rel => exact ⟨k + 1, by omega, by go_num, by rw [Hsucc.out, hsa.out]; exact hown5, hg13.own hf5 (Nat.le_refl _)⟩
            case measure => simp [intOf]; omega
    · have hk0 : k = cnt p := by omega
      subst hk0
      go_wp2
      go_ret
      exact ⟨_, rfl, hown.lists, hg1.trans hgr⟩
end Go.Proofs.YtelfaljidgfphaaGreat
