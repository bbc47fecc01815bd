/-
  The walk of FnTopological.
-/
import Derived.Test.YtelfaljidgfphaaGreatT4
namespace Go.Proofs.YtelfaljidgfphaaGreat
open Go.RowKit

/-- The map 'done', at the block b: the numbers below N of which D holds are marked. -/
def DoneM (w : World) (b N : Nat) (D : Nat → Prop) : Prop := ∃ ks, NMap w b (fun r => .int .i64 (r : Int)) N ks (fun _ => .bool true) ∧ ∀ n, n ∈ ks ↔ D n

section
variable {w w' : World} {b N : Nat} {D D' : Nat → Prop}
theorem DoneM.made (w : World) (N : Nat) : DoneM (w.alloc (.map #[] 0)) w.heap.size N (fun _ => False) := ⟨[], NMap.made w _ N _, by simp⟩
theorem DoneM.gr (h : DoneM w b N D) (hg : Gr w w') : DoneM w' b N D := by
  obtain ⟨ks, h1, h2⟩ := h
  exact ⟨ks, h1.fr hg id, h2⟩
theorem DoneM.congr (h : DoneM w b N D) (hD : ∀ n, D n ↔ D' n) : DoneM w b N D' := by
  obtain ⟨ks, h1, h2⟩ := h
  exact ⟨ks, h1, fun n => (h2 n).trans (hD n)⟩
theorem DoneM.yes (h : DoneM w b N D) {n : Nat} (hn : n < N) (hD : D n) : (Instr.lookup 53 (.map (some b)) (.int .i64 (n : Int)) false).run Tryz.prog w = .ok (.bool true) w := by
  obtain ⟨ks, h1, h2⟩ := h
  have := h1.look (keyOk_int und3 N) Tryz.underlying53 zero4 hn
  rw [if_pos ((h2 n).2 hD)] at this
  exact this
theorem DoneM.no (h : DoneM w b N D) {n : Nat} (hn : n < N) (hD : ¬ D n) : (Instr.lookup 53 (.map (some b)) (.int .i64 (n : Int)) false).run Tryz.prog w = .ok (.bool false) w := by
  obtain ⟨ks, h1, h2⟩ := h
  have := h1.look (keyOk_int und3 N) Tryz.underlying53 zero4 hn
  rw [if_neg (fun hc => hD ((h2 n).1 hc))] at this
  exact this
theorem DoneM.put (h : DoneM w b N D) {n : Nat} (hn : n < N) : ∃ w', (Instr.mapUpdate 53 (.map (some b)) (.int .i64 (n : Int)) (.bool true)).run Tryz.prog w = .ok () w' ∧ Hid (DoneM w' b N (fun m => D m ∨ m = n)) ∧ Fr (fun j => j = b) w w' ∧ w'.heap.size = w.heap.size := by
  obtain ⟨ks, h1, h2⟩ := h
  obtain ⟨w', h3, h4, h5, h6⟩ := h1.put (keyOk_int und3 N) Tryz.underlying53 hn (.bool true)
  refine ⟨w', h3, Lib.hid ⟨putKs ks n, h4.congr (fun _ _ => rfl) (fun k _ => by unfold putVal; split <;> rfl) h4.2.1, fun m => ?_⟩, h5, h6⟩
  unfold putKs
  by_cases hm : n ∈ ks
  · rw [if_pos hm, h2]
    exact ⟨.inl, fun h => h.elim id (fun e => by subst e; exact (h2 m).1 hm)⟩
  · rw [if_neg hm, List.mem_append, List.mem_singleton, h2]
theorem DoneM.lt (h : DoneM w b N D) : b < w.heap.size := by
  obtain ⟨ks, h1, h2⟩ := h
  exact h1.lt
end

theorem objs_inj {p : List It} (hK : KOk p) {k j : Nat} (hk : k < p.length) (hj : j < p.length) (h : objs p k = objs p j) : k = j := by
  have hn := (n_pos hK (it_mem hk)).1
  have h1 : start p k ∈ objs p k := by unfold objs; exact List.mem_range'_1.2 ⟨by omega, by omega⟩
  have h2 := ((mem_objs hk).1 h1).2
  rw [h] at h1
  rw [← h2, ((mem_objs hj).1 h1).2]
theorem ints_inj {a b : List Nat} (h : ints a = ints b) : a = b := by
  unfold ints at h
  exact (List.map_inj_right (f := fun (n : Nat) => (n : Int)) (fun x y e => Int.ofNat.inj e)).1 h
theorem plain_one {p : List It} {k : Nat} (h : (it p k).kind = 2) : (it p k).n = 1 := by unfold It.n; rw [h]; rfl

def PlD (p : List It) (k n : Nat) : Prop := ∃ j, j < k ∧ (it p j).kind = 2 ∧ n = start p j
def GotD (p : List It) (ks : List Nat) (t n : Nat) : Prop := n < cnt p ∧ ((it p (own p n)).kind = 2 ∨ own p n ∈ ks.take t)

def TopRel1 (w5 : World) (p : List It) (mb : Nat) (i : Value) (wr : World) : Prop := ∃ k : Nat, k ≤ p.length ∧ i = .int .i64 (k : Int) ∧ DoneM wr mb (cnt p) (PlD p k) ∧ Gr w5 wr
def TopRel2 (w5 : World) (p : List It) (ks : List Nat) (mb : Nat) (i : Value) (wr : World) : Prop := ∃ t : Nat, t ≤ ks.length ∧ i = .int .i64 (t : Int) ∧ DoneM wr mb (cnt p) (GotD p ks t) ∧ Gr w5 wr
def TopRel3 (w : World) (p : List It) (kt : Nat) (f i : Value) (wr : World) : Prop := ∃ k : Nat, k ≤ p.length ∧ i = .int .i64 (k : Int) ∧ f = .bool (decide (kt < k)) ∧ Gr w wr
def TopRel4 (w : World) (n : Nat) (i : Value) (wr : World) : Prop := ∃ t : Nat, t ≤ n ∧ i = .int .i64 (t : Int) ∧ Gr w wr
def TopRel5 (w5 : World) (p : List It) (ks : List Nat) (t kt mb : Nat) (i : Value) (wr : World) : Prop := ∃ m : Nat, m ≤ (it p kt).n ∧ i = .int .i64 (m : Int) ∧ DoneM wr mb (cnt p) (fun n => GotD p ks t n ∨ n ∈ (objs p kt).take m) ∧ Gr w5 wr

theorem PlD.succ {p : List It} {k : Nat} (h : ¬ (it p k).kind = 2) (n : Nat) : PlD p k n ↔ PlD p (k + 1) n := by
  constructor
  · rintro ⟨j, h1, h2⟩; exact ⟨j, by omega, h2⟩
  · rintro ⟨j, h1, h2, h3⟩
    have : j ≠ k := fun e => h (e ▸ h2)
    exact ⟨j, by omega, h2, h3⟩
theorem PlD.succ' {p : List It} {k : Nat} (h : (it p k).kind = 2) (n : Nat) : (PlD p k n ∨ n = start p k) ↔ PlD p (k + 1) n := by
  constructor
  · rintro (⟨j, h1, h2⟩ | rfl)
    · exact ⟨j, by omega, h2⟩
    · exact ⟨k, by omega, h, rfl⟩
  · rintro ⟨j, h1, h2, h3⟩
    by_cases e : j = k
    · subst e; exact .inr h3
    · exact .inl ⟨j, by omega, h2, h3⟩
theorem PlD.end {p : List It} (ks : List Nat) (n : Nat) : PlD p p.length n ↔ GotD p ks 0 n := by
  unfold GotD
  constructor
  · rintro ⟨j, h1, h2, rfl⟩
    have h3 := plain_one h2
    have h4 := own_start (p := p) (k := j) (j := 0) h1 (by omega)
    have h5 := start_lt (p := p) (k := j) (j := 0) h1 (by omega)
    rw [Nat.add_zero] at h4 h5
    exact ⟨h5, .inl (by rw [h4]; exact h2)⟩
  · rintro ⟨h1, h2 | h2⟩
    · obtain ⟨h3, h4, h5⟩ := own_spec h1
      have := plain_one h2
      exact ⟨own p n, h3, h2, by omega⟩
    · simp at h2
theorem GotD.succ {p : List It} {ks : List Nat} {t kt : Nat} (ht : ks[t]? = some kt) (hk : kt < p.length) (n : Nat) : (GotD p ks t n ∨ n ∈ (objs p kt).take (it p kt).n) ↔ GotD p ks (t + 1) n := by
  rw [List.take_of_length_le (by rw [objs_length]; omega), mem_objs hk]
  unfold GotD
  rw [take_snoc ht, List.mem_append, List.mem_singleton]
  constructor
  · rintro (⟨h1, h2 | h2⟩ | ⟨h1, h2⟩)
    · exact ⟨h1, .inl h2⟩
    · exact ⟨h1, .inr (.inl h2)⟩
    · exact ⟨h1, .inr (.inr h2)⟩
  · rintro ⟨h1, h2 | h2 | h2⟩
    · exact .inl ⟨h1, .inl h2⟩
    · exact .inl ⟨h1, .inr h2⟩
    · exact .inr ⟨h1, h2⟩

set_option maxHeartbeats 8000000 in
set_option maxRecDepth 100000 in
theorem fnTopological_walk (w : World) (ok : Nat → Prop) (A : Option Addr) (c : Nat) (p : List It) (hp : Its w ok (.slice A p.length c) p) (hw : wt p ≤ 1048576) :
    Calls Tryz.prog 13 #[.slice A p.length c] w (PTrue' w) := by
  have hpl := length_le_wt p
  have hwk := works_any
  have hm53 := fun u => run_makeMap (P := Tryz.prog) 53 u
  go_enter Tryz.func13, Tryz.ntmps13
  go_wp2_with (go_at_call 16; refine (zz1_any w ok A c p hp (by omega)).mono ?_; rintro e w1 ⟨b1, rfl, hb1, hg1⟩; clear hb1; cases b1)
  · go_wp2
    go_ret
    exact ⟨rfl, hg1⟩
  · go_wp2_with (first
      | (go_at_call 18; refine (valid_any w2 (fun _ => True) A2 c2 p hp2 (by omega)).mono ?_; rintro e w3 ⟨b3, rfl, hb3, hg3⟩; have Hb3 := Lib.hid hb3; clear hb3; cases b3)
      | (go_at_call 17; refine (read_any w1 ok A c p (hp.gr hg1) (by omega)).mono ?_; rintro e w2 ⟨v2, rfl, hp2, hg2⟩; replace hp2 := hp2.its; obtain ⟨A2, c2, rfl⟩ := hp2.val))
    · go_wp2
      go_ret
      exact ⟨rfl, (hg1.trans hg2).trans hg3⟩
    · have hO := ok_of_valid (Hb3.out.1 (by trivial)) (by omega)
      have hk := hO.kinds
      have hr := hO.refs
      have hlen := hO.len
      have hcnt := cnt_le hk
      have hg123 := (hg1.trans hg2).trans hg3
      have hp3 := hp2.gr hg3
      have hcapp := hp3.cap
      have HI := Lib.hid (fun (u : World) (hu : Gr w3 u) => Initializers_any u (fun _ => True) A2 c2 p (hp3.gr hu) hk hlen)
      go_wp2_with (first
        | (go_at_call 37; refine (HI.out _ hg4).mono ?_; rintro e w5 ⟨v5, rfl, hi5, hg5⟩; replace hi5 := hi5.lists; obtain ⟨A5, c5, rfl⟩ := hi5.val; obtain ⟨ks, hla, hnd, hmem, hneed⟩ := topo_law hO hem4; have hle := topo_length hO hem4; subst hla; rw [List.length_map] at hle; simp only [lists_length, ← hle, List.length_map] at hl4 ⊢; clear hle)
        | (go_at_call 20; refine (order_law_any w3 (fun _ => True) A2 c2 p hp3 hO).mono ?_; rintro e w4 ⟨v4, la, rfl, hem4, hl4, hg4⟩; obtain ⟨A4, c4, rfl⟩ := hl4.val))
      have hksl : ks.length ≤ p.length := nodup_length_le hnd (fun k hk => ((hmem k).1 hk).1)
      have Hks := Lib.hid (fun k (hk : k ∈ ks) => (hmem k).1 hk)
      have Hneed := Lib.hid hneed
      have Hnd := Lib.hid hnd
      have hp5 := hp3.gr (hg4.trans hg5)
      have hl5 := hl4.gr hg5
      have hdm := DoneM.made w5 (cnt p)
      obtain ⟨mb, hmb⟩ : ∃ mb, mb = w5.heap.size := ⟨_, rfl⟩
      have hgw5 := (hg123.trans hg4).trans hg5
      simp only [← hmb] at hdm ⊢
      have Hmb := Lib.hid hmb
      clear hmem hneed hnd hi5 hl4 HI hem4 hmb
      have HObj := Lib.hid (fun (u : World) (k : Nat) (hu : Gr w5 u) (hkl : k < p.length) => Objects_any u (fun _ => True) A2 c2 p k (hp5.gr hu) hcapp hk hlen hkl)
      have hhead : ∀ k, k < p.length → Hid ((ints (objs p k)).map intV = .int .i64 (start p k : Int) :: ((List.range' (start p k + 1) ((it p k).n - 1)).map fun (n : Nat) => intV (n : Int))) := fun k hkl => by
        show _ = _
        have hnp := (n_pos hk (it_mem hkl)).1
        obtain ⟨m, hm⟩ : ∃ m, (it p k).n = m + 1 := ⟨_, (Nat.sub_add_cancel hnp).symm⟩
        unfold objs
        rw [hm, List.range'_succ]
        simp [ints, intV]
      have Hhead := Lib.hid hhead
      clear hhead
      go_loopw [44] (TopRel1 w5 p mb) (fun i _ => p.length - (intOf i).toNat)
      case atStart => exact ⟨0, by omega, rfl, hdm.congr (fun n => ⟨False.elim, fun ⟨j, h, _⟩ => by omega⟩), (Gr.refl w5).alloc _⟩
      case round =>
        clear hdm
        obtain ⟨k, hkp, rfl, hdm, hgr⟩ := hrel
        by_cases hlt : k < p.length
        · obtain ⟨bb, ob, A9, c9, rfl, -, -, x0, x1, x2, -⟩ := (hp5.gr hgr).at_ hlt
          have hki : (k : Int) < (p.length : Int) := by omega
          by_cases e2 : (it p k).kind = 2
          · have d2 : ((it p k).kind == 2) = true := by simp [e2]
            have hn1 := plain_one e2
            have E2 := Lib.hid e2
            have hni : (0 : Int) < ((it p k).n : Int) := by omega
            have hsl := start_lt (p := p) (k := k) (j := 0) hlt (by omega)
            rw [Nat.add_zero] at hsl
            have HN1 := Lib.hid hn1
            clear e2 hn1
            go_wp2_with (go_at_call 31; refine (HObj.out _ k (hgr.alloc _) hlt).mono ?_; rintro e w9 ⟨v9, rfl, ho9, hg9⟩; obtain ⟨g9, o9, cap9, cur9, rfl, -, -, -, -, hc9⟩ := ho9.at_ (by omega); have q9 := hc9 0 _ (by rw [(Hhead.out k hlt).out]; rfl); rw [Nat.add_zero] at q9; clear hc9; obtain ⟨w8, hput, Hdm8, hf8, hs8⟩ := ((hdm.gr ((Gr.refl wr).alloc _)).gr hg9).put hsl)
            go_roundw
            case rel => exact ⟨k + 1, by omega, by go_num, Hdm8.out.congr (fun n => PlD.succ' E2.out n), ((hgr.alloc _).trans hg9).step hf8 (fun b hb => by rw [hb, Hmb.out]; exact Nat.le_refl _)⟩
            case measure => simp [intOf]; omega
          · have d2 : ((it p k).kind == 2) = false := by simp [e2]
            have E2 := Lib.hid e2
            clear e2
            go_wp2
            go_roundw
            case rel => exact ⟨k + 1, by omega, by go_num, (hdm.gr ((Gr.refl wr).alloc _)).congr (fun n => PlD.succ E2.out n), hgr.alloc _⟩
            case measure => simp [intOf]; omega
        · have hk0 : k = p.length := by omega
          subst hk0
          go_wp2
          go_loopw [61] (TopRel2 w5 p ks mb) (fun i _ => ks.length - (intOf i).toNat)
          case atStart => exact ⟨0, by omega, rfl, hdm.congr (fun n => PlD.end ks n), hgr⟩
          case round =>
            rename World => wx
            clear hdm hgr
            obtain ⟨t, ht, rfl, hdm, hgr⟩ := hrel
            have hmbl := hdm.lt
            by_cases hlt : t < ks.length
            · obtain ⟨kt, hkt⟩ := get_lt hlt
              obtain ⟨hktl, hkti⟩ := Hks.out kt (List.mem_of_getElem? hkt)
              have hti : (t : Int) < (ks.length : Int) := by omega
              obtain ⟨ba, oa, rfl, -, -, hca⟩ := hl5.at_ (k := t) (by rw [lists_length, List.length_map]; omega)
              obtain ⟨Aa, ca, y0, hia⟩ := hca (ints (objs p kt)) (by simp [lists, hkt])
              replace y0 := hgr.cell y0
              obtain ⟨bg, og, rfl, -, -, hcg⟩ := (hia.gr hgr).at_ (k := 0) (by rw [ints_length, objs_length]; have := (n_pos hk (it_mem hktl)).1; omega)
              have z1 := hcg (start p kt : Int) (by
                have hnp := (n_pos hk (it_mem hktl)).1
                obtain ⟨m, hm⟩ : ∃ m, (it p kt).n = m + 1 := ⟨_, (Nat.sub_add_cancel hnp).symm⟩
                unfold objs
                rw [hm, List.range'_succ]
                simp [ints])
              rw [Nat.add_zero] at z1
              have hil : (ints (objs p kt)).length = (it p kt).n := by rw [ints_length, objs_length]
              rw [hil] at y0
              have hia' := hia
              rw [hil] at hia'
              have Hia := Lib.hid hia
              have hnp := n_pos hk (it_mem hktl)
              have Hkt := Lib.hid hkt
              have Hkti := Lib.hid hkti
              clear hca hcg hia hkt hkti
              go_wp2
              go_loopw [11, 67] (TopRel3 wx p kt) (fun _ i _ => p.length - (intOf i).toNat)
              case atStart => exact ⟨0, by omega, rfl, by simp, Gr.refl wx⟩
              case round =>
                rename World => wy
                obtain ⟨k, hkp, rfl, rfl, hgy⟩ := hrel
                have hgr2 := hgr.trans hgy
                by_cases hlk : k < p.length
                · obtain ⟨bb, ob, A9, c9, rfl, -, -, x0, x1, x2, -⟩ := (hp5.gr hgr2).at_ hlk
                  have hki : (k : Int) < (p.length : Int) := by omega
                  by_cases hkd : (it p k).kind = 0 ∨ (it p k).kind = 1
                  · have hnn : ((it p k).kind != 0) = false ∨ ((it p k).kind != 0) = true ∧ ((it p k).kind != 1) = false := by
                      rcases hkd with h | h <;> simp [h]
                    have HO2 : Hid _ := Lib.hid (fun (u : World) (hu : Gr wy u) => HObj.out u k (hgr2.trans hu) hlk)
                    clear hkd
                    by_cases hkk : k = kt
                    · subst hkk
                      have HN : Hid _ := Lib.hid (fun (u : World) (hu : Gr wy u) => NeedsAll_any u (fun _ => True) (some ⟨bb, ob, none⟩) c2 p k (hp5.gr (hgr2.trans hu)) hk hr hlen (by omega) hlk)
                      rcases hnn with n0 | ⟨n0, n1⟩
                      all_goals (
                        go_wp2_with (first
                          | (go_at_call 32; refine (HN.out _ hg10).mono ?_; rintro e w11 ⟨v11, rfl, ho11, hg11⟩; have hb11 : Bools w11 (fun _ => True) v11 (needsAll p k) := (by have := ho11.arr.mono (ok' := fun _ => True) (fun _ _ _ => trivial); unfold Bools; rw [needsAll_length]; exact this); obtain ⟨A11, c11, hv11⟩ := hb11.val; rw [needsAll_length] at hv11; subst hv11)
                          | (go_at_call 30; refine hcmp.mono ?_; rintro e w10 ⟨rfl, hq10⟩; have hg10 : Gr wy w10 := (((Gr.refl wy).alloc _).trans hg9).trans hq10.gr)
                          | (go_at_call 31; refine (HO2.out _ ((Gr.refl wy).alloc _)).mono ?_; rintro e w9 ⟨v9, rfl, ho9, hg9⟩; obtain ⟨B9, d9, rfl⟩ := ho9.val; have hcmp := ints_any w9 _ (fun _ => True) B9 (some ⟨bg, og, none⟩) d9 ca (ints (objs p k)) (ints (objs p k)) (by rw [hil]; exact ho9.ints) ((Hia.out.gr hgr2).gr (((Gr.refl wy).alloc _).trans hg9)) (by rw [hil]; omega); rw [decide_eq_true rfl, hil] at hcmp))
                        have hdm11 := (hdm.gr hgy).gr (hg10.trans hg11)
                        go_loopw [92] (TopRel4 w11 (cnt p)) (fun i _ => cnt p - (intOf i).toNat)
                        case atStart => exact ⟨0, by omega, rfl, Gr.refl w11⟩
                        case round =>
                          rename World => wz
                          obtain ⟨n, hn, rfl, hgz⟩ := hrel
                          by_cases hnl : n < cnt p
                          · have hni : (n : Int) < (cnt p : Int) := by omega
                            obtain ⟨bx, hbx⟩ := get_lt (l := needsAll p k) (k := n) (by rw [needsAll_length]; omega)
                            obtain ⟨b7, o7, rfl, -, -, hc7⟩ := (hb11.gr hgz).at_ (k := n) (by rw [needsAll_length]; omega)
                            have z7 := hc7 _ hbx
                            have Hbx := Lib.hid hbx
                            clear hc7 hbx
                            cases bx
                            · go_wp2
                              go_roundw
                              case rel => exact ⟨n + 1, by omega, by go_num, hgz⟩
                              case measure => simp [intOf]; omega
                            · have hlook := (hdm11.gr hgz).yes hnl ⟨hnl, Hneed.out t k Hkt.out n Hbx.out⟩
                              go_wp2
                              go_roundw
                              case rel => exact ⟨n + 1, by omega, by go_num, hgz⟩
                              case measure => simp [intOf]; omega
                          · have hn0 : n = cnt p := by omega
                            subst hn0
                            go_wp2
                            go_roundw
                            case rel => exact ⟨k + 1, by omega, by go_num, by simp, (hgy.trans (hg10.trans hg11)).trans hgz⟩
                            case measure => simp [intOf]; omega)
                    · have hne : Hid (decide (ints (objs p k) = ints (objs p kt)) = false) := by
                        show _ = _
                        rw [decide_eq_false_iff_not]
                        exact fun h => hkk (objs_inj hk hlk hktl (ints_inj h))
                      have hilk : (ints (objs p k)).length = (it p k).n := by rw [ints_length, objs_length]
                      have hnpk := n_pos hk (it_mem hlk)
                      have hdk : decide (kt < k + 1) = decide (kt < k) := by
                        by_cases h : kt < k
                        · rw [decide_eq_true h, decide_eq_true (by omega)]
                        · rw [decide_eq_false h, decide_eq_false (by omega)]
                      have Hdk := Lib.hid hdk
                      clear hdk
                      rcases hnn with n0 | ⟨n0, n1⟩
                      all_goals (
                        go_wp2_with (first
                          | (go_at_call 30; refine hcmp.mono ?_; rintro e w10 ⟨rfl, hq10⟩; have hg10 : Gr wy w10 := (((Gr.refl wy).alloc _).trans hg9).trans hq10.gr)
                          | (go_at_call 31; refine (HO2.out _ ((Gr.refl wy).alloc _)).mono ?_; rintro e w9 ⟨v9, rfl, ho9, hg9⟩; obtain ⟨B9, d9, rfl⟩ := ho9.val; have hcmp := ints_any w9 _ (fun _ => True) B9 (some ⟨bg, og, none⟩) d9 ca (ints (objs p k)) (ints (objs p kt)) (by rw [hilk]; exact ho9.ints) ((Hia.out.gr hgr2).gr (((Gr.refl wy).alloc _).trans hg9)) (by rw [hilk]; omega); rw [hne.out, hilk, hil] at hcmp))
                        go_roundw
                        case rel => exact ⟨k + 1, by omega, by go_num, by rw [Hdk.out], hgy.trans hg10⟩
                        case measure => simp [intOf]; omega)
                  · have n0 : ((it p k).kind != 0) = true := by simp; omega
                    have n1 : ((it p k).kind != 1) = true := by simp; omega
                    have hkk : k ≠ kt := fun e => by
                      have h1 := Hkti.out
                      rw [← e] at h1
                      unfold It.ini at h1
                      simp at h1
                      exact hkd h1
                    have hdk : decide (kt < k + 1) = decide (kt < k) := by
                      by_cases h : kt < k
                      · rw [decide_eq_true h, decide_eq_true (by omega)]
                      · rw [decide_eq_false h, decide_eq_false (by omega)]
                    have Hdk := Lib.hid hdk
                    clear hdk hkd
                    go_wp2
                    go_roundw
                    case rel => exact ⟨k + 1, by omega, by go_num, by rw [Hdk.out], hgy.alloc _⟩
                    case measure => simp [intOf]; omega
                · have hk0 : k = p.length := by omega
                  subst hk0
                  have hdt : decide (kt < p.length) = true := decide_eq_true hktl
                  rw [hdt]
                  have z1y := hgy.cell z1
                  have hst := start_lt (p := p) (k := kt) (j := 0) hktl (by omega)
                  have hso := own_start (p := p) (k := kt) (j := 0) hktl (by omega)
                  rw [Nat.add_zero] at hst hso
                  have hlook := (hdm.gr hgy).no hst (fun hc => by
                    unfold GotD at hc
                    rw [hso] at hc
                    rcases hc.2 with h | h
                    · have h1 := Hkti.out
                      unfold It.ini at h1
                      rw [h] at h1
                      simp at h1
                    · obtain ⟨j, hj⟩ := List.mem_iff_getElem?.1 h
                      rw [List.getElem?_take] at hj
                      split at hj
                      · have h2 := (List.getElem?_inj (i := j) (j := t) (by omega) Hnd.out).1 (by rw [hj, Hkt.out])
                        omega
                      · cases hj)
                  have hni : (0 : Int) < ((it p kt).n : Int) := by omega
                  clear hdt hso
                  go_wp2
                  go_loopw [117] (TopRel5 w5 p ks t kt mb) (fun i _ => (it p kt).n - (intOf i).toNat)
                  case atStart => exact ⟨0, by omega, rfl, (hdm.gr hgy).congr (fun n => ⟨.inl, fun h => h.elim id (fun h => by simp at h)⟩), hgr.trans hgy⟩
                  case round =>
                    rename World => wz
                    clear hlook z1y hgr2
                    obtain ⟨m, hm, rfl, hdz, hgz⟩ := hrel
                    by_cases hml : m < (it p kt).n
                    · have hmi : (m : Int) < ((it p kt).n : Int) := by omega
                      have hobm : (objs p kt)[m]? = some (start p kt + m) := by unfold objs; rw [List.getElem?_range' hml, Nat.one_mul]
                      obtain ⟨b8, o8, he8, -, -, hc8⟩ := (Hia.out.gr hgz).at_ (k := m) (by rw [hil]; omega)
                      simp only [Option.some.injEq, Addr.mk.injEq, and_true] at he8
                      obtain ⟨rfl, rfl⟩ := he8
                      have z8 := hc8 ((start p kt + m : Nat) : Int) (by unfold ints; rw [List.getElem?_map, hobm]; rfl)
                      have hsm := start_lt (p := p) (k := kt) (j := m) hktl hml
                      obtain ⟨w8, hput, Hdm8, hf8, hs8⟩ := hdz.put hsm
                      rw [Int.natCast_add] at hput
                      clear hc8
                      go_wp2
                      go_roundw
                      case rel =>
                        refine ⟨m + 1, by omega, by go_num, Hdm8.out.congr (fun n => ?_), hgz.step hf8 (fun b hb => by rw [hb, Hmb.out]; exact Nat.le_refl _)⟩
                        rw [take_snoc hobm, List.mem_append, List.mem_singleton, or_assoc]
                      case measure => simp [intOf]; omega
                    · have hm0 : m = (it p kt).n := by omega
                      subst hm0
                      go_wp2
                      go_roundw
                      case rel => exact ⟨t + 1, by omega, by go_num, hdz.congr (fun n => GotD.succ Hkt.out hktl n), hgz⟩
                      case measure => simp [intOf]; omega
            · have ht0 : t = ks.length := by omega
              subst ht0
              go_wp2_with (go_at_call 24; refine (hwk _).mono ?_; rintro e w11 ⟨rfl, hg11⟩)
              go_ret
              exact ⟨rfl, (hgw5.trans hgr).trans hg11⟩
end Go.Proofs.YtelfaljidgfphaaGreat
