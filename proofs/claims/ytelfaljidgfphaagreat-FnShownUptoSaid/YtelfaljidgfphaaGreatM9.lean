/-
  The walk of FnShown.
-/
import Derived.Test.YtelfaljidgfphaaGreatN6
import Derived.Test.YtelfaljidgfphaaGreatM2
namespace Go.Proofs.YtelfaljidgfphaaGreat
open Go.RowKit

theorem shown_law {p : List It} (hO : Ok p) {a : List (List Nat)} (ha : Em p a) : ∀ g ∈ a, ∀ n ∈ g, ∀ k, k < p.length → (it p k).ini = false → start p k ≠ n := by
  intro g hg n hn k hk hi e
  subst e
  obtain ⟨L, h1, -, rfl⟩ := ha
  unfold emit at hg
  obtain ⟨r, hr, rfl⟩ := List.mem_map.1 hg
  obtain ⟨h2, h3⟩ := List.mem_filter.1 hr
  simp only [Bool.and_eq_true] at h3
  have h4 := (mem_objs (own_spec (h1.mem r h2).1).1).1 hn
  have h5 := (n_pos hO.kinds (it_mem hk)).1
  have h6 := own_start (p := p) (k := k) (j := 0) hk (by omega)
  rw [Nat.add_zero, h4.2] at h6
  rw [h6, hi] at h3
  cases h3.1

theorem kind_ready {w : World} {B g o n c : Nat} {l : List It} (h : OwnIts w B 47 (.slice (some ⟨g, o, none⟩) n c) l) {k : Nat} (hk : k < l.length) :
    ∃ v, w.cell? ⟨g, o + k * 3, none⟩ = some v ∧ (∀ i, w.frozen? ⟨g, i, none⟩ = false) ∧ g < w.heap.size ∧ B ≤ g := by
  obtain ⟨b, o', A', c', he, -, -, h0, -, -, -⟩ := h.its.at_ hk
  obtain ⟨-, ⟨cur, hrow⟩, -, hf⟩ := h.cellAt hk
  have hb := h.blk g rfl
  simp only [Option.some.injEq, Addr.mk.injEq, and_true] at he
  obtain ⟨rfl, rfl⟩ := he
  exact ⟨_, h0, hf, heap_lt hrow, hb⟩

/-- A walk that leaves all as it was. -/
def ShRel (w : World) (n : Nat) (i : Value) (wr : World) : Prop := ∃ t : Nat, t ≤ n ∧ i = .int .i64 (t : Int) ∧ Gr w wr

set_option maxHeartbeats 8000000 in
set_option maxRecDepth 100000 in
theorem fnShown_walk (w : World) (ok : Nat → Prop) (A : Option Addr) (c : Nat) (p : List It) (cb : Bool) (A' : Option Addr) (c' : Nat) (refs : List Int) (hp : Its w ok (.slice A p.length c) p) (hx : Ints w ok (.slice A' refs.length c') refs) (hw : wt p + refs.length + 1 ≤ 1048576) (hwr : refs.length ≤ 1048576) :
    Calls Tryz.prog 11 #[.slice A p.length c, .bool cb, .slice A' refs.length c'] w (PTrue' w) := by
  have hpl := length_le_wt p
  have hrl : ¬ (2147483647 < (refs.length : Int)) := by omega
  have hql : ∀ x : It, (p ++ [x]).length = p.length + 1 := fun x => by simp
  have Hql := Lib.hid hql
  clear hql
  go_enter Tryz.func11, Tryz.ntmps11
  go_wp2_with (go_at_call 16; refine (zz1_any w ok A c p hp (by omega)).mono ?_; rintro e w1 ⟨b1, rfl, hb1, hg1⟩; clear hb1; cases b1)
  · go_wp2
    go_ret
    exact ⟨rfl, hg1⟩
  · cases cb
    · go_wp2_with (first
        | (go_at_call 18; refine HV.out.mono ?_; clear HV; rintro e w5 ⟨b5, rfl, hb5, hg5⟩; have Hb5 := Lib.hid hb5; clear hb5; cases b5)
        | (at_builtin; refine wpList_appended rfl _ _ _ _ rfl rfl rfl Hr4 ?_; have HV := Lib.hid (valid_any w4 (fun _ => True) A2 c2 p (hp2.gr hgS) (by omega)))
        | (at_builtin; refine wpList_appended rfl _ _ _ _ rfl rfl rfl Hr3 ?_; obtain ⟨g, o, c4, w4, Hr4, hoS, hgS⟩ := H4.out; clear Hr3)
        | (go_at_call 17; refine (read_any w1 ok A c p (hp.gr hg1) (by omega)).mono ?_; rintro e w2 ⟨v2, rfl, hp2, hg2⟩; replace hp2 := hp2.its; obtain ⟨A2, c2, rfl⟩ := hp2.val; obtain ⟨A3, c3, w3, Hr3, hg3, H4⟩ := app_copy hp2 (by omega) ⟨3, 0, refs⟩ (hx.gr (hg1.trans hg2))))
      · go_wp2
        go_ret
        exact ⟨rfl, ((hg1.trans hg2).trans hgS).trans hg5⟩
      · have hg12 := hg1.trans hg2
        have hql : (p ++ [(⟨3, 0, refs⟩ : It)]).length = p.length + 1 := Hql.out _
        have hO := ok_of_valid (Hb5.out.1 (by trivial)) (by omega)
        have hq5 : Its w5 (fun _ => True) (.slice (some ⟨g, o, none⟩) (p.length + 1) c4) (p ++ [⟨3, 0, refs⟩]) := (hoS.gr hg5).its
        have HVq : Hid _ := Lib.hid (valid_any w5 (fun _ => True) (some ⟨g, o, none⟩) c4 (p ++ [⟨3, 0, refs⟩]) (by rw [hql]; exact hq5) (by rw [wt_snoc]; show wt p + (refs.length + 1) ≤ _; omega))
        rw [hql] at HVq
        have hp5 : Its w5 (fun _ => True) (.slice A2 p.length c2) p := hp2.gr (hgS.trans hg5)
        have hgw5 := (hg12.trans hgS).trans hg5
        go_wp2_with (go_at_call 18; refine HVq.out.mono ?_; clear HVq; rintro e w6 ⟨b6, rfl, hb6, hg6⟩; have Hb6 := Lib.hid hb6; clear hb6; cases b6)
        · go_wp2
          go_ret
          exact ⟨rfl, hgw5.trans hg6⟩
        · have hOq := ok_of_valid (Hb6.out.1 (by trivial)) (by rw [wt_snoc]; show wt p + (refs.length + 1) ≤ _; omega)
          have hp6 := hp5.gr hg6
          have hcapp := hp6.cap
          have hcnt := cnt_le hO.kinds
          have hlen := hO.len
          have hEm := Lib.hid (fun a (ha : Em p a) => app_em (x := ⟨3, 0, refs⟩) hO.refs rfl ha)
          have HP : Hid _ := Lib.hid (order_law_any w6 (fun _ => True) A2 c2 p hp6 hO)
          go_wp2_with (go_at_call 20; refine HP.out.mono ?_; clear HP; rintro e w7 ⟨v7, la, rfl, hema, hl7, hg7⟩; obtain ⟨A7, c7, rfl⟩ := hl7.val)
          have Hlaw := Lib.hid (shown_law hO hema)
          have hsza := Em.size hO.kinds hema
          have Hsz := Lib.hid hsza.2
          have hlal : la.length ≤ 209715200 := by omega
          have hll : (lists la).length = la.length := lists_length la
          rw [hll] at hl7 ⊢
          have Hll := Lib.hid hll
          clear hsza hll
          have hp7 := hp6.gr hg7
          go_loopw [54] (ShRel w7 la.length) (fun i _ => la.length - (intOf i).toNat)
          case atStart => exact ⟨0, by omega, rfl, Gr.refl w7⟩
          case round =>
            obtain ⟨t, ht, rfl, hgr⟩ := hrel
            by_cases hlt : t < la.length
            · obtain ⟨gl, hgl⟩ := get_lt hlt
              obtain ⟨b1, o1, rfl, -, -, hc1⟩ := hl7.at_ (k := t) (by rw [Hll.out]; omega)
              obtain ⟨A1, c1, q0, hi1⟩ := hc1 (ints gl) (by simp [lists, hgl])
              rw [ints_length] at q0 hi1
              replace q0 := hgr.cell q0
              have hti : (t : Int) < (la.length : Int) := by omega
              have hg100 := Hsz.out gl (List.mem_of_getElem? hgl)
              have Hmem := Lib.hid (List.mem_of_getElem? hgl)
              clear hc1 hgl
              go_wp2
              go_loopw [60] (ShRel wr gl.length) (fun i _ => gl.length - (intOf i).toNat)
              case atStart => exact ⟨0, by omega, rfl, Gr.refl wr⟩
              case round =>
                rename World => wx
                clear q0
                obtain ⟨j, hj, rfl, hgx⟩ := hrel
                by_cases hjl : j < gl.length
                · obtain ⟨n, hn⟩ := get_lt hjl
                  obtain ⟨b2, o2, rfl, -, -, hc2⟩ := ((hi1.gr hgr).gr hgx).at_ (k := j) (by rw [ints_length]; omega)
                  have q1 := hc2 (n : Int) (by simp [ints, hn])
                  have hji : (j : Int) < (gl.length : Int) := by omega
                  have Hn := Lib.hid (fun k hk hi => Hlaw.out gl Hmem.out n (List.mem_of_getElem? hn) k hk hi)
                  clear hc2 hn
                  go_wp2
                  go_loopw [66] (ShRel wx p.length) (fun i _ => p.length - (intOf i).toNat)
                  case atStart => exact ⟨0, by omega, rfl, Gr.refl wx⟩
                  case round =>
                    rename World => wy
                    clear q1
                    obtain ⟨k, hk, rfl, hgy⟩ := hrel
                    by_cases hkl : k < p.length
                    · have hg7y := (hgr.trans hgx).trans hgy
                      have hpy := hp7.gr hg7y
                      obtain ⟨bb, ob, A9, c9, rfl, -, -, x0, x1, x2, -⟩ := hpy.at_ hkl
                      have hki : (k : Int) < (p.length : Int) := by omega
                      by_cases e0 : (it p k).kind = 0
                      · have d0 : ((it p k).kind != 0) = false := by simp [e0]
                        have E0 := Lib.hid e0
                        clear e0
                        go_wp2
                        go_roundw
                        case rel => exact ⟨k + 1, by omega, by go_num, hgy.alloc _⟩
                        case measure => simp [intOf]; omega
                      · have d0 : ((it p k).kind != 0) = true := by simp [e0]
                        by_cases e1 : (it p k).kind = 1
                        · have d1 : ((it p k).kind != 1) = false := by simp [e1]
                          have E1 := Lib.hid e1
                          clear e1 e0
                          go_wp2
                          go_roundw
                          case rel => exact ⟨k + 1, by omega, by go_num, hgy.alloc _⟩
                          case measure => simp [intOf]; omega
                        · have d1 : ((it p k).kind != 1) = true := by simp [e1]
                          have hne := Hn.out k hkl (by unfold It.ini; simp [e0, e1])
                          have dn : ((start p k : Int) == (n : Int)) = false := by simp; omega
                          have dni : ¬ (start p k : Int) = (n : Int) := by omega
                          have hnp := (n_pos hO.kinds (it_mem hkl)).1
                          have hni : (0 : Int) < ((it p k).n : Int) := by omega
                          have E0 := Lib.hid e0
                          have E1 := Lib.hid e1
                          have hobj : Hid ((ints (objs p k)).map intV = .int .i64 (start p k : Int) :: ((List.range' (start p k + 1) ((it p k).n - 1)).map fun (n : Nat) => intV (n : Int))) := by
                            show _ = _
                            obtain ⟨m, hm⟩ : ∃ m, (it p k).n = m + 1 := ⟨_, (Nat.sub_add_cancel hnp).symm⟩
                            unfold objs
                            rw [hm, List.range'_succ]
                            simp [ints, intV]
                          have HObj : Hid _ := Lib.hid (fun (u : World) (hu : Gr wy u) => Objects_any u (fun _ => True) (some ⟨bb, ob, none⟩) c2 p k (hpy.gr hu) hcapp hO.kinds hlen hkl)
                          clear e0 e1 hne
                          go_wp2_with (go_at_call 31; refine (HObj.out _ ((Gr.refl wy).alloc _)).mono ?_; rintro e w9 ⟨v9, rfl, ho9, hg9⟩; obtain ⟨g9, o9, cap9, cur9, rfl, -, -, -, -, hc9⟩ := ho9.at_ (by omega); have q9 := hc9 0 _ (by rw [hobj.out]; rfl); rw [Nat.add_zero] at q9; clear hc9)
                          go_roundw
                          case rel => exact ⟨k + 1, by omega, by go_num, (hgy.alloc _).trans hg9⟩
                          case measure => simp [intOf]; omega
                    · have hk0 : k = p.length := by omega
                      subst hk0
                      go_wp2
                      go_roundw
                      case rel => exact ⟨j + 1, by omega, by go_num, hgx.trans hgy⟩
                      case measure => simp [intOf]; omega
                · have hj0 : j = gl.length := by omega
                  subst hj0
                  go_wp2
                  go_roundw
                  case rel => exact ⟨t + 1, by omega, by go_num, hgr.trans hgx⟩
                  case measure => simp [intOf]; omega
            · have ht0 : t = la.length := by omega
              subst ht0
              have HE : Hid _ := Lib.hid (equal_any wr (fun _ => True) (fun _ => True) A2 (some ⟨g, o, none⟩) c2 c4 p (p ++ [⟨3, 0, refs⟩]) (hp7.gr hgr) (by rw [hql]; exact ((hq5.gr hg6).gr hg7).gr hgr) hO hOq hEm.out)
              rw [hql] at HE
              go_wp2_with (go_at_call 25; refine HE.out.mono ?_; rintro e w9 ⟨rfl, hg9⟩)
              go_ret
              exact ⟨rfl, (((hgw5.trans hg6).trans hg7).trans hgr).trans hg9⟩
    · go_wp2_with (first
        | (at_builtin; refine wpList_appended rfl _ _ _ _ rfl rfl rfl Hr4 ?_; obtain ⟨zv, z0, zfr, hgl4, hgB⟩ := kind_ready ho4 (k := p.length) (by simp); have hgS : Gr w2 (w4.setCell ⟨g, o + p.length * 3, none⟩ (.int .i64 4)) := hg4.step (fr_set _ _ _ _) (fun b hb => by rw [hb]; exact hgB); have HV := Lib.hid (valid_any (w4.setCell ⟨g, o + p.length * 3, none⟩ (.int .i64 4)) (fun _ => True) A2 c2 p (hp2.gr hgS) (by omega)))
        | (at_builtin; refine wpList_appended rfl _ _ _ _ rfl rfl rfl Hr3 ?_; obtain ⟨g, o, c4, w4, Hr4, ho4, hg4⟩ := H4.out; clear Hr3)
        | (go_at_call 18; refine HV.out.mono ?_; clear HV; rintro e w5 ⟨b5, rfl, hb5, hg5⟩; have Hb5 := Lib.hid hb5; clear hb5; cases b5)
        | (go_at_call 17; refine (read_any w1 ok A c p (hp.gr hg1) (by omega)).mono ?_; rintro e w2 ⟨v2, rfl, hp2, hg2⟩; replace hp2 := hp2.its; obtain ⟨A2, c2, rfl⟩ := hp2.val; obtain ⟨A3, c3, w3, Hr3, hg3, H4⟩ := app_copy hp2 (by omega) ⟨3, 0, refs⟩ (hx.gr (hg1.trans hg2)); have hli : (p.length : Int) < (p.length : Int) + 1 := by omega))
      · go_wp2
        go_ret
        exact ⟨rfl, ((hg1.trans hg2).trans hgS).trans hg5⟩
      · have hg12 := hg1.trans hg2
        have hoS := ho4.setKind (k := p.length) (by simp) 4
        have hse : (p ++ [(⟨3, 0, refs⟩ : It)]).set p.length { it (p ++ [(⟨3, 0, refs⟩ : It)]) p.length with kind := 4 } = p ++ [⟨4, 0, refs⟩] := by
          rw [app_it_last]
          simp
        rw [hse] at hoS
        clear hse
        have hql : (p ++ [(⟨4, 0, refs⟩ : It)]).length = p.length + 1 := Hql.out _
        have hO := ok_of_valid (Hb5.out.1 (by trivial)) (by omega)
        have hq5 : Its w5 (fun _ => True) (.slice (some ⟨g, o, none⟩) (p.length + 1) c4) (p ++ [⟨4, 0, refs⟩]) := (hoS.gr hg5).its
        have HVq : Hid _ := Lib.hid (valid_any w5 (fun _ => True) (some ⟨g, o, none⟩) c4 (p ++ [⟨4, 0, refs⟩]) (by rw [hql]; exact hq5) (by rw [wt_snoc]; show wt p + (refs.length + 1) ≤ _; omega))
        rw [hql] at HVq
        have hp5 : Its w5 (fun _ => True) (.slice A2 p.length c2) p := hp2.gr (hgS.trans hg5)
        have hgw5 := (hg12.trans hgS).trans hg5
        go_wp2_with (go_at_call 18; refine HVq.out.mono ?_; clear HVq; rintro e w6 ⟨b6, rfl, hb6, hg6⟩; have Hb6 := Lib.hid hb6; clear hb6; cases b6)
        · go_wp2
          go_ret
          exact ⟨rfl, hgw5.trans hg6⟩
        · have hOq := ok_of_valid (Hb6.out.1 (by trivial)) (by rw [wt_snoc]; show wt p + (refs.length + 1) ≤ _; omega)
          have hp6 := hp5.gr hg6
          have hcapp := hp6.cap
          have hcnt := cnt_le hO.kinds
          have hlen := hO.len
          have hEm := Lib.hid (fun a (ha : Em p a) => app_em (x := ⟨4, 0, refs⟩) hO.refs rfl ha)
          have HP : Hid _ := Lib.hid (order_law_any w6 (fun _ => True) A2 c2 p hp6 hO)
          go_wp2_with (go_at_call 20; refine HP.out.mono ?_; clear HP; rintro e w7 ⟨v7, la, rfl, hema, hl7, hg7⟩; obtain ⟨A7, c7, rfl⟩ := hl7.val)
          have Hlaw := Lib.hid (shown_law hO hema)
          have hsza := Em.size hO.kinds hema
          have Hsz := Lib.hid hsza.2
          have hlal : la.length ≤ 209715200 := by omega
          have hll : (lists la).length = la.length := lists_length la
          rw [hll] at hl7 ⊢
          have Hll := Lib.hid hll
          clear hsza hll
          have hp7 := hp6.gr hg7
          go_loopw [54] (ShRel w7 la.length) (fun i _ => la.length - (intOf i).toNat)
          case atStart => exact ⟨0, by omega, rfl, Gr.refl w7⟩
          case round =>
            obtain ⟨t, ht, rfl, hgr⟩ := hrel
            by_cases hlt : t < la.length
            · obtain ⟨gl, hgl⟩ := get_lt hlt
              obtain ⟨b1, o1, rfl, -, -, hc1⟩ := hl7.at_ (k := t) (by rw [Hll.out]; omega)
              obtain ⟨A1, c1, q0, hi1⟩ := hc1 (ints gl) (by simp [lists, hgl])
              rw [ints_length] at q0 hi1
              replace q0 := hgr.cell q0
              have hti : (t : Int) < (la.length : Int) := by omega
              have hg100 := Hsz.out gl (List.mem_of_getElem? hgl)
              have Hmem := Lib.hid (List.mem_of_getElem? hgl)
              clear hc1 hgl
              go_wp2
              go_loopw [60] (ShRel wr gl.length) (fun i _ => gl.length - (intOf i).toNat)
              case atStart => exact ⟨0, by omega, rfl, Gr.refl wr⟩
              case round =>
                rename World => wx
                clear q0
                obtain ⟨j, hj, rfl, hgx⟩ := hrel
                by_cases hjl : j < gl.length
                · obtain ⟨n, hn⟩ := get_lt hjl
                  obtain ⟨b2, o2, rfl, -, -, hc2⟩ := ((hi1.gr hgr).gr hgx).at_ (k := j) (by rw [ints_length]; omega)
                  have q1 := hc2 (n : Int) (by simp [ints, hn])
                  have hji : (j : Int) < (gl.length : Int) := by omega
                  have Hn := Lib.hid (fun k hk hi => Hlaw.out gl Hmem.out n (List.mem_of_getElem? hn) k hk hi)
                  clear hc2 hn
                  go_wp2
                  go_loopw [66] (ShRel wx p.length) (fun i _ => p.length - (intOf i).toNat)
                  case atStart => exact ⟨0, by omega, rfl, Gr.refl wx⟩
                  case round =>
                    rename World => wy
                    clear q1
                    obtain ⟨k, hk, rfl, hgy⟩ := hrel
                    by_cases hkl : k < p.length
                    · have hg7y := (hgr.trans hgx).trans hgy
                      have hpy := hp7.gr hg7y
                      obtain ⟨bb, ob, A9, c9, rfl, -, -, x0, x1, x2, -⟩ := hpy.at_ hkl
                      have hki : (k : Int) < (p.length : Int) := by omega
                      by_cases e0 : (it p k).kind = 0
                      · have d0 : ((it p k).kind != 0) = false := by simp [e0]
                        have E0 := Lib.hid e0
                        clear e0
                        go_wp2
                        go_roundw
                        case rel => exact ⟨k + 1, by omega, by go_num, hgy.alloc _⟩
                        case measure => simp [intOf]; omega
                      · have d0 : ((it p k).kind != 0) = true := by simp [e0]
                        by_cases e1 : (it p k).kind = 1
                        · have d1 : ((it p k).kind != 1) = false := by simp [e1]
                          have E1 := Lib.hid e1
                          clear e1 e0
                          go_wp2
                          go_roundw
                          case rel => exact ⟨k + 1, by omega, by go_num, hgy.alloc _⟩
                          case measure => simp [intOf]; omega
                        · have d1 : ((it p k).kind != 1) = true := by simp [e1]
                          have hne := Hn.out k hkl (by unfold It.ini; simp [e0, e1])
                          have dn : ((start p k : Int) == (n : Int)) = false := by simp; omega
                          have dni : ¬ (start p k : Int) = (n : Int) := by omega
                          have hnp := (n_pos hO.kinds (it_mem hkl)).1
                          have hni : (0 : Int) < ((it p k).n : Int) := by omega
                          have E0 := Lib.hid e0
                          have E1 := Lib.hid e1
                          have hobj : Hid ((ints (objs p k)).map intV = .int .i64 (start p k : Int) :: ((List.range' (start p k + 1) ((it p k).n - 1)).map fun (n : Nat) => intV (n : Int))) := by
                            show _ = _
                            obtain ⟨m, hm⟩ : ∃ m, (it p k).n = m + 1 := ⟨_, (Nat.sub_add_cancel hnp).symm⟩
                            unfold objs
                            rw [hm, List.range'_succ]
                            simp [ints, intV]
                          have HObj : Hid _ := Lib.hid (fun (u : World) (hu : Gr wy u) => Objects_any u (fun _ => True) (some ⟨bb, ob, none⟩) c2 p k (hpy.gr hu) hcapp hO.kinds hlen hkl)
                          clear e0 e1 hne
                          go_wp2_with (go_at_call 31; refine (HObj.out _ ((Gr.refl wy).alloc _)).mono ?_; rintro e w9 ⟨v9, rfl, ho9, hg9⟩; obtain ⟨g9, o9, cap9, cur9, rfl, -, -, -, -, hc9⟩ := ho9.at_ (by omega); have q9 := hc9 0 _ (by rw [hobj.out]; rfl); rw [Nat.add_zero] at q9; clear hc9)
                          go_roundw
                          case rel => exact ⟨k + 1, by omega, by go_num, (hgy.alloc _).trans hg9⟩
                          case measure => simp [intOf]; omega
                    · have hk0 : k = p.length := by omega
                      subst hk0
                      go_wp2
                      go_roundw
                      case rel => exact ⟨j + 1, by omega, by go_num, hgx.trans hgy⟩
                      case measure => simp [intOf]; omega
                · have hj0 : j = gl.length := by omega
                  subst hj0
                  go_wp2
                  go_roundw
                  case rel => exact ⟨t + 1, by omega, by go_num, hgr.trans hgx⟩
                  case measure => simp [intOf]; omega
            · have ht0 : t = la.length := by omega
              subst ht0
              have HE : Hid _ := Lib.hid (equal_any wr (fun _ => True) (fun _ => True) A2 (some ⟨g, o, none⟩) c2 c4 p (p ++ [⟨4, 0, refs⟩]) (hp7.gr hgr) (by rw [hql]; exact ((hq5.gr hg6).gr hg7).gr hgr) hO hOq hEm.out)
              rw [hql] at HE
              go_wp2_with (go_at_call 25; refine HE.out.mono ?_; rintro e w9 ⟨rfl, hg9⟩)
              go_ret
              exact ⟨rfl, (((hgw5.trans hg6).trans hg7).trans hgr).trans hg9⟩
end Go.Proofs.YtelfaljidgfphaaGreat
