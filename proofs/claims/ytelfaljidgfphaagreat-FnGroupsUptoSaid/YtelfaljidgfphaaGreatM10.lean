/-
  The walk of FnGroups.
-/
import Derived.Test.YtelfaljidgfphaaGreatN5
import Derived.Deep.RegionHeld3
namespace Go.Proofs.YtelfaljidgfphaaGreat
open Go.RowKit

/-- A walk that leaves all as it was. -/
def GrpRel (w : World) (n : Nat) (i : Value) (wr : World) : Prop := ∃ t : Nat, t ≤ n ∧ i = .int .i64 (t : Int) ∧ Gr w wr

set_option maxHeartbeats 8000000 in
set_option maxRecDepth 100000 in
theorem fnGroups_walk (w : World) (ok : Nat → Prop) (A : Option Addr) (c : Nat) (p : List It) (hp : Its w ok (.slice A p.length c) p) (hw : wt p ≤ 1048576) :
    Calls Tryz.prog 6 #[.slice A p.length c] w (PTrue' w) := by
  have hpl := length_le_wt p
  have hwk := works_any
  have Hsl := Lib.hid (single_length p)
  go_enter Tryz.func6, Tryz.ntmps6
  go_wp2_with (go_at_call 16; refine (zz1_any w ok A c p hp (by omega)).mono ?_; rintro e w1 ⟨b1, rfl, hb1, hg1⟩; clear hb1; cases b1)
  · go_wp2
    go_ret
    exact ⟨rfl, hg1⟩
  · go_wp2_with (first
      | (go_at_call 18; refine (valid_any w2 (fun _ => True) A2 c2 p hp2 (by omega)).mono ?_; rintro e w3 ⟨b3, rfl, hb3, hg3⟩; have Hb3 := Lib.hid hb3; clear hb3; cases b3)
      | (go_at_call 17; refine (read_any w1 ok A c p (hp.gr hg1) (by omega)).mono ?_; rintro e w2 ⟨v2, rfl, hp2, hg2⟩; replace hp2 := hp2.its; obtain ⟨A2, c2, rfl⟩ := hp2.val))
    · go_wp2
      go_ret
      exact ⟨rfl, (hg1.trans hg2).trans hg3⟩
    · have hV := Hb3.out.1 (by trivial)
      have HV := Lib.hid hV
      have hO := ok_of_valid hV (by omega)
      have hk := hO.kinds
      have hr := hO.refs
      have hlen := hO.len
      have hcnt := cnt_le hk
      have hg123 := (hg1.trans hg2).trans hg3
      have hp3 := hp2.gr hg3
      have hcapp := hp3.cap
      clear hV
      go_wp2_with (go_at_call 28; refine (Lone_any w3 (fun _ => True) A2 c2 p hp3 hk hr hlen (by omega)).mono ?_; rintro e w4 ⟨b4, rfl, hb4, hg4⟩; have Hb4 := Lib.hid hb4; clear hb4; cases b4)
      · go_wp2
        go_ret
        exact ⟨rfl, hg123.trans hg4⟩
      · have HLo := Lib.hid (Hb4.out.1 (by trivial))
        have hp4 := hp3.gr hg4
        have hOq := single_ok hO HV.out
        have HS : Hid _ := Lib.hid (Single_any w4 (fun _ => True) A2 c2 p hp4 hk hr hlen (by omega))
        go_wp2_with (first
          | (go_at_call 20; refine HQ.out.mono ?_; clear HQ; rintro e w7 ⟨v7, lb, rfl, hemb, hl7, hg7⟩; obtain ⟨A7, c7, rfl⟩ := hl7.val; have Hlaw := single_law hO HV.out HLo.out hema hemb; obtain ⟨ks, rfl, rfl, hks⟩ := Hlaw; simp only [lists_length, List.length_map] at hl6 hl7 ⊢)
          | (go_at_call 20; refine (order_law_any w5 (fun _ => True) A2 c2 p (hp4.gr hg5) hO).mono ?_; rintro e w6 ⟨v6, la, rfl, hema, hl6, hg6⟩; obtain ⟨A6, c6, rfl⟩ := hl6.val; have HQ : Hid _ := Lib.hid (order_law_any w6 (fun _ => True) A5 c5 (single p) (by rw [Hsl.out]; exact hi5.gr hg6) hOq); rw [Hsl.out] at HQ)
          | (go_at_call 29; refine HS.out.mono ?_; clear HS; rintro e w5 ⟨v5, vo5, rfl, hi5, hg5⟩; replace hi5 : Its w5 (fun _ => True) v5 (single p) := (by obtain ⟨B, hi5⟩ := hi5; exact hi5.its); obtain ⟨A5, c5, hv5⟩ := hi5.val; rw [Hsl.out] at hv5; subst hv5))
        have hksl : ks.length ≤ 209715200 := by
          have h1 := (Em.size hk hema).1
          rw [List.length_map] at h1
          omega
        have hp7 := (hp4.gr hg5).gr (hg6.trans hg7)
        have hl67 := hl6.gr hg7
        have Hks := Lib.hid hks
        clear hema hemb hks hl6
        go_loopw [55] (GrpRel w7 ks.length) (fun i _ => ks.length - (intOf i).toNat)
        case atStart => exact ⟨0, by omega, rfl, Gr.refl w7⟩
        case round =>
          obtain ⟨t, ht, rfl, hgr⟩ := hrel
          by_cases hlt : t < ks.length
          · obtain ⟨k, hkt⟩ := get_lt hlt
            have hkl := Hks.out k (List.mem_of_getElem? hkt)
            have hti : (t : Int) < (ks.length : Int) := by omega
            obtain ⟨ba, oa, rfl, -, -, hca⟩ := (hl67.gr hgr).at_ (k := t) (by rw [lists_length, List.length_map]; omega)
            obtain ⟨Aa, ca, y0, hia⟩ := hca (ints (objs p k)) (by simp [lists, hkt])
            obtain ⟨bb, ob, rfl, -, -, hcb⟩ := (hl7.gr hgr).at_ (k := t) (by rw [lists_length, List.length_map]; omega)
            obtain ⟨Ab, cb, z0, hib⟩ := hcb (ints [k]) (by simp [lists, hkt])
            obtain ⟨bg, og, rfl, -, -, hcg⟩ := hib.at_ (k := 0) (by simp [ints])
            have z1 := hcg (k : Int) (by simp [ints])
            rw [Nat.add_zero] at z1
            have e1 : (ints [k]).length = 1 := by simp [ints]
            rw [e1] at z0
            rw [ints_length, objs_length] at y0
            have hki : (k : Int) < (p.length : Int) := by omega
            have hnp := n_pos hk (it_mem hkl)
            have hk0 : decide ((k : Int) < 0) = false := by simp
            have hk0i : ¬ (k : Int) < 0 := by omega
            have hkg : decide (p.length ≤ k) = false := by rw [decide_eq_false_iff_not]; omega
            have hkgi : ¬ p.length ≤ k := by omega
            have HObj : Hid _ := Lib.hid (Objects_any wr.drew (fun _ => True) A2 c2 p k ((hp7.gr hgr).gr (Gr.refl wr).drew) hcapp hk hlen hkl)
            have Hia := Lib.hid hia
            clear hca hcb hcg hib e1 hkt hia
            go_wp2
            have z1d := Gr.cell (Gr.refl wr).drew z1
            have y0d := Gr.cell (Gr.refl wr).drew y0
            go_region_held3 (fun w' => w'.cell? ⟨bg, og, none⟩ = some (.int .i64 (k : Int)) ∧ w'.cell? ⟨ba, oa + t, none⟩ = some (.slice Aa (it p k).n ca)) (first | exact ⟨z1, y0⟩ | exact ⟨z1d, y0d⟩ | exact ⟨z1', y0'⟩ | exact ⟨z1'', y0''⟩) (first
              | (go_at_call 30; refine hcmp.mono ?_; rintro e w10 ⟨rfl, hq10⟩; have z1'' := hq10.gr.cell z1'; have y0'' := hq10.gr.cell y0')
              | (go_at_call 31; refine HObj.out.mono ?_; rintro e w9 ⟨v9, rfl, ho9, hg9⟩; obtain ⟨A9, c9, rfl⟩ := ho9.val; have z1' := hg9.cell z1d; have y0' := hg9.cell y0d; have hi9 := ho9.ints; have hcmp := ints_any w9 (fun _ => True) _ Aa A9 ca c9 (ints (objs p k)) (ints (objs p k)) ((Hia.out.gr (Gr.refl wr).drew).gr hg9) (by rw [ints_length, objs_length]; exact hi9) (by rw [ints_length, objs_length]; omega); rw [decide_eq_true rfl, ints_length, objs_length] at hcmp))
            all_goals (
              go_wp2
              go_roundw
              case rel => exact ⟨t + 1, by omega, by go_num, ((hgr.trans (Gr.refl wr).drew).trans hg9).trans hq10.gr⟩
              case measure => simp [intOf]; omega)
          · have ht0 : t = ks.length := by omega
            subst ht0
            go_wp2_with (go_at_call 24; refine (hwk _).mono ?_; rintro e w11 ⟨rfl, hg11⟩)
            go_ret
            exact ⟨rfl, (((((hg123.trans hg4).trans hg5).trans hg6).trans hg7).trans hgr).trans hg11⟩
end Go.Proofs.YtelfaljidgfphaaGreat
