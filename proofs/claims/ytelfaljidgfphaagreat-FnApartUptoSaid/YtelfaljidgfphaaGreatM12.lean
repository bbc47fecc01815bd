/-
  The walks of 'through', of 'only' and of FnApart.
-/
import Derived.Test.YtelfaljidgfphaaGreatN7
namespace Go.Proofs.YtelfaljidgfphaaGreat
open Go.RowKit

def thrL (F : List Nat) (l : List (List Nat)) : List (List Nat) := l.map fun g => g.map fun t => F.getD t 0
def ThrRel1 (w : World) (l : List (List Nat)) (F : List Nat) (v i : Value) (wr : World) : Prop :=
  ∃ t : Nat, t ≤ l.length ∧ i = .int .i64 (t : Int) ∧ OwnLists wr w.heap.size v (lists (thrL F (l.take t))) ∧ Gr w wr
def ThrRel2 (w3 : World) (g F : List Nat) (v i : Value) (wb : World) : Prop :=
  ∃ j : Nat, j ≤ g.length ∧ i = .int .i64 (j : Int) ∧ Own wb (fun b => w3.heap.size ≤ b) 3 1 v ((g.take j).map fun t => F.getD t 0).length ((ints ((g.take j).map fun t => F.getD t 0)).map intV) ∧ Gr w3 wb

set_option maxHeartbeats 4000000 in
set_option maxRecDepth 100000 in
/-- 'through(l, by)' -/
theorem through_any (w : World) (ok ok' : Nat → Prop) (A B : Option Addr) (c d : Nat) (l : List (List Nat)) (F : List Nat) (hl : Lists w ok (.slice A l.length c) (lists l)) (hF : Ints w ok' (.slice B F.length d) (ints F))
    (hll : l.length ≤ 1099511627776) (hg : ∀ g ∈ l, g.length ≤ 1099511627776 ∧ ∀ n ∈ g, n < F.length) :
    Calls Tryz.prog 22 #[.slice A l.length c, .slice B F.length d] w (PVal fun v w' => OwnLists w' w.heap.size v (lists (thrL F l)) ∧ Gr w w') := by
  go_enter Tryz.func22, Tryz.ntmps22
  go_wp2
  go_loopw [5, 13] (ThrRel1 w l F) (fun _ i _ => l.length - (intOf i).toNat)
  case atStart => exact ⟨0, by omega, rfl, by simpa [thrL, lists] using OwnLists.nil w w.heap.size, Gr.refl w⟩
  case round =>
    obtain ⟨t, ht, rfl, hown, hgr⟩ := hrel
    by_cases hlt : t < l.length
    · obtain ⟨gl, hgl⟩ := get_lt hlt
      obtain ⟨hg1, hg2⟩ := hg gl (List.mem_of_getElem? hgl)
      have hti : (t : Int) < (l.length : Int) := by omega
      obtain ⟨b1, o1, rfl, -, -, hc1⟩ := (hl.gr hgr).at_ (k := t) (by rw [lists_length]; omega)
      obtain ⟨A1, c1, q0, hi1⟩ := hc1 (ints gl) (by simp [lists, hgl])
      rw [ints_length] at q0 hi1
      have Hgl := Lib.hid (take_snoc hgl)
      have Hg2 := Lib.hid hg2
      clear hc1 hgl hg2
      go_wp2
      go_loopw [8, 19] (ThrRel2 wr gl F) (fun _ i _ => gl.length - (intOf i).toNat)
      case atStart => exact ⟨0, by omega, rfl, by simpa [ints] using Own.nil _ _ _ _, Gr.refl wr⟩
      case round =>
        rename World => wb
        clear q0
        obtain ⟨j, hj, rfl, hol, hgb⟩ := hrel
        by_cases hjl : j < gl.length
        · obtain ⟨n, hn⟩ := get_lt hjl
          have hnF := Hg2.out n (List.mem_of_getElem? hn)
          obtain ⟨b2, o2, rfl, -, -, hc2⟩ := (hi1.gr hgb).at_ (k := j) (by rw [ints_length]; omega)
          have q1 := hc2 (n : Int) (by simp [ints, hn])
          obtain ⟨b3, o3, rfl, -, -, hc3⟩ := (hF.gr (hgr.trans hgb)).at_ (k := n) (by rw [ints_length]; omega)
          have q2 := hc3 ((F.getD n 0 : Nat) : Int) (by simp [ints, hnF])
          have hji : (j : Int) < (gl.length : Int) := by omega
          have hni : (n : Int) < (F.length : Int) := by omega
          have hn0 : decide ((n : Int) < 0) = false := by simp
          have hn0i : ¬ (n : Int) < 0 := by omega
          have hnF2 : decide (F.length ≤ n) = false := by rw [decide_eq_false_iff_not]; omega
          have hnF3 : ¬ F.length ≤ n := by omega
          have Hn := Lib.hid (take_snoc hn)
          obtain ⟨x, hx⟩ : ∃ x, x = F.getD n 0 := ⟨_, rfl⟩
          rw [← hx] at q2
          have Hx := Lib.hid hx
          have hjlen : ((gl.take j).map fun t => F.getD t 0).length ≤ 1099511627776 := by rw [List.length_map, List.length_take]; omega
          obtain ⟨v9, w9, Hr9, ho9, -, hf9b, -, -⟩ := app1 (P := Tryz.prog) (t := 29) (ty := 29) elem3 Tryz.underlying29 hol (.int .i64 (x : Int)) rfl hgb.size hjlen (by omega)
          have Ho9 := Lib.hid ho9
          clear hc2 hc3 hx hn hol ho9 hjlen
          go_wp2_with (at_builtin; refine wpList_appended rfl _ _ _ _ rfl rfl rfl Hr9 ?_)
          go_roundw
          case rel =>
            refine ⟨j + 1, by omega, by go_num, ?_, hgb.step hf9b (fun b hb => hb)⟩
            rw [Hn.out, List.map_append, List.map_cons, List.map_nil, ← Hx.out, intsV_snoc]
            have := Ho9.out
            simpa using this
          case measure => simp [intOf]; omega
        · have hj0 : j = gl.length := by omega
          subst hj0
          rw [List.take_length] at hol
          obtain ⟨A5, c5, rfl⟩ := hol.val
          have hxl : (gl.map fun t => F.getD t 0).length = (ints (gl.map fun t => F.getD t 0)).length := by rw [ints_length]
          rw [hxl] at hol ⊢
          have hlen5 : (lists (thrL F (l.take t))).length ≤ 1099511627776 := by unfold thrL; rw [lists_length, List.length_map, List.length_take]; omega
          obtain ⟨v6, w6, Hr6, hown6, hf6, -⟩ := OwnLists.push (t := 32) (ty := 32) (hown.gr hgb) (x := ints (gl.map fun t => F.getD t 0)) (hol.ints.mono (fun b _ hb e => by have := hown.lt b e; omega)) Tryz.underlying32 (by have := (hgr.trans hgb).size; omega) hlen5
          have Hown6 := Lib.hid hown6
          clear hown6 hlen5
          go_wp2_with (at_builtin; refine wpList_appended rfl _ _ _ _ rfl rfl rfl Hr6 ?_)
          go_roundw
          case rel =>
            refine ⟨t + 1, by omega, by go_num, ?_, (hgr.trans hgb).step hf6 (fun b hb => hb)⟩
            unfold thrL
            rw [Hgl.out, List.map_append, List.map_cons, List.map_nil, lists_snoc]
            exact Hown6.out
          case measure => simp [intOf]; omega
    · have ht0 : t = l.length := by omega
      subst ht0
      rw [List.take_length] at hown
      go_wp2
      go_ret
      exact ⟨_, rfl, hown, hgr⟩

def onlyL (F : List Nat) (l : List (List Nat)) : List (List Nat) := l.filter fun g => F.contains (g.headD 0)
def OnlyRel1 (w : World) (l : List (List Nat)) (F : List Nat) (v i : Value) (wr : World) : Prop :=
  ∃ t : Nat, t ≤ l.length ∧ i = .int .i64 (t : Int) ∧ OwnLists wr w.heap.size v (lists (onlyL F (l.take t))) ∧ Gr w wr
def OnlyRel2 (w3 : World) (r : Nat) (F : List Nat) (v0 v i : Value) (wb : World) : Prop := ∃ j : Nat, j ≤ F.length ∧ i = .int .i64 (j : Int) ∧ v = v0 ∧ r ∉ F.take j ∧ wb = w3

set_option maxHeartbeats 4000000 in
set_option maxRecDepth 100000 in
/-- 'only(l, by)' -/
theorem only_any (w : World) (ok ok' : Nat → Prop) (A B : Option Addr) (c d : Nat) (l : List (List Nat)) (F : List Nat) (hl : Lists w ok (.slice A l.length c) (lists l)) (hF : Ints w ok' (.slice B F.length d) (ints F))
    (hll : l.length ≤ 1099511627776) (hlF : F.length ≤ 1099511627776) (hg : ∀ g ∈ l, g ≠ []) :
    Calls Tryz.prog 23 #[.slice A l.length c, .slice B F.length d] w (PVal fun v w' => OwnLists w' w.heap.size v (lists (onlyL F l)) ∧ Gr w w') := by
  go_enter Tryz.func23, Tryz.ntmps23
  go_wp2
  go_loopw [5, 12] (OnlyRel1 w l F) (fun _ i _ => l.length - (intOf i).toNat)
  case atStart => exact ⟨0, by omega, rfl, by simpa [onlyL, lists] using OwnLists.nil w w.heap.size, Gr.refl w⟩
  case round =>
    obtain ⟨t, ht, rfl, hown, hgr⟩ := hrel
    by_cases hlt : t < l.length
    · obtain ⟨gl, hgl⟩ := get_lt hlt
      have hgne := hg gl (List.mem_of_getElem? hgl)
      obtain ⟨r, gt, rfl⟩ : ∃ r gt, gl = r :: gt := by cases gl with | nil => exact absurd rfl hgne | cons r gt => exact ⟨r, gt, rfl⟩
      have hti : (t : Int) < (l.length : Int) := by omega
      obtain ⟨b1, o1, rfl, -, -, hc1⟩ := hl.at_ (k := t) (by rw [lists_length]; omega)
      obtain ⟨A1, c1, q0, hi1⟩ := hc1 (ints (r :: gt)) (by simp [lists, hgl])
      rw [ints_length] at q0
      replace q0 := hgr.cell q0
      have hi2 : Ints wr (fun b => u5.ownBlock ≠ some b) (.slice A1 (ints (r :: gt)).length c1) (ints (r :: gt)) := (hi1.mono (ok' := fun b => u5.ownBlock ≠ some b) (fun b hb _ e => by have := hown.blk b e; omega)).gr hgr
      obtain ⟨b2, o2, rfl, -, -, hc2⟩ := (hi1.gr hgr).at_ (k := 0) (by rw [ints_length]; simp)
      have q1 := hc2 (r : Int) (by simp [ints])
      rw [Nat.add_zero] at q1
      have hn0 : 0 < (r :: gt).length := by simp
      obtain ⟨n, hn⟩ : ∃ n, n = (r :: gt).length := ⟨_, rfl⟩
      rw [← hn] at q0 hn0
      have Hn := Lib.hid hn
      have hni : (0 : Int) < (n : Int) := by omega
      have hnd : decide ((0 : Int) < (n : Int)) = true := decide_eq_true hni
      have Htk := Lib.hid (take_snoc hgl)
      clear hc1 hc2 hgl hi1 hn hgne
      go_wp2
      go_loopw [5, 18] (OnlyRel2 wr r F u5) (fun _ i _ => F.length - (intOf i).toNat)
      case atStart => exact ⟨0, by omega, rfl, rfl, by simp, rfl⟩
      case round =>
        rename World => wb
        obtain ⟨j, hj, rfl, rfl, hnm, rfl⟩ := hrel
        by_cases hjl : j < F.length
        · obtain ⟨x, hx⟩ := get_lt hjl
          obtain ⟨b3, o3, rfl, -, -, hc3⟩ := (hF.gr hgr).at_ (k := j) (by rw [ints_length]; omega)
          have q2 := hc3 (x : Int) (by simp [ints, hx])
          have hji : (j : Int) < (F.length : Int) := by omega
          have Hj := Lib.hid (take_snoc hx)
          have Hmem := Lib.hid (List.mem_of_getElem? hx)
          have Hnm := Lib.hid hnm
          clear hc3 hx hnm
          by_cases e : r = x
          · have dr : ((r : Int) == (x : Int)) = true := by simp [e]
            have E := Lib.hid e
            have hlen5 : (lists (onlyL F (l.take t))).length ≤ 1099511627776 := by
              unfold onlyL
              rw [lists_length]
              have h1 := List.length_filter_le (fun g : List Nat => F.contains (g.headD 0)) (l.take t)
              rw [List.length_take] at h1
              omega
            obtain ⟨v6, w6, Hr6, hown6, hf6, -⟩ := OwnLists.push (t := 32) (ty := 32) hown (x := ints (r :: gt)) hi2 Tryz.underlying32 hgr.size hlen5
            rw [ints_length, ← Hn.out] at Hr6
            have Hown6 := Lib.hid hown6
            clear hown6 hlen5 e
            go_wp2_with (at_builtin; refine wpList_appended rfl _ _ _ _ rfl rfl rfl Hr6 ?_)
            go_roundw
            case rel =>
              refine ⟨t + 1, by omega, by go_num, ?_, hgr.step hf6 (fun b hb => hb)⟩
              have hc : F.contains ((r :: gt).headD 0) = true := by
                have := Hmem.out
                rw [← E.out] at this
                simpa using this
              unfold onlyL
              rw [Htk.out, List.filter_append, List.filter_cons, if_pos hc, List.filter_nil, lists_snoc]
              exact Hown6.out
            case measure => simp [intOf]; omega
          · have dr : ((r : Int) == (x : Int)) = false := by simp; omega
            have E := Lib.hid e
            clear e
            go_wp2
            go_roundw
            case rel =>
              refine ⟨j + 1, by omega, by go_num, rfl, ?_, rfl⟩
              rw [Hj.out, List.mem_append, List.mem_singleton]
              exact fun h => h.elim Hnm.out E.out
            case measure => simp [intOf]; omega
        · have hj0 : j = F.length := by omega
          subst hj0
          rw [List.take_length] at hnm
          have Hnm := Lib.hid hnm
          clear hnm
          go_wp2
          go_roundw
          case rel =>
            refine ⟨t + 1, by omega, by go_num, ?_, hgr⟩
            have hc : F.contains ((r :: gt).headD 0) = false := by
              have := Hnm.out
              simpa using this
            have hown' := hown
            unfold onlyL at hown' ⊢
            rw [Htk.out, List.filter_append, List.filter_cons, hc]
            simpa using hown'
          case measure => simp [intOf]; omega
    · have ht0 : t = l.length := by omega
      subst ht0
      rw [List.take_length] at hown
      go_wp2
      go_ret
      exact ⟨_, rfl, hown, hgr⟩

theorem em_lt {p : List It} (hK : KOk p) {a : List (List Nat)} (ha : Em p a) : ∀ g ∈ a, g ≠ [] ∧ ∀ n ∈ g, n < cnt p := by
  obtain ⟨L, h1, -, rfl⟩ := ha
  intro g hg
  unfold emit at hg
  obtain ⟨r, hr, rfl⟩ := List.mem_map.1 hg
  have h2 := (own_spec (h1.mem r (List.mem_filter.1 hr).1).1).1
  refine ⟨fun e => ?_, fun n hn => ((mem_objs h2).1 hn).1⟩
  have h3 := (n_pos hK (it_mem h2)).1
  have h4 := objs_length p (own p r)
  rw [e] at h4
  simp at h4
  omega

/-- What is compared, of one of the packages. -/
theorem apart_law {p q : List It} {F : List Nat} (h : Emb p q F) (hO : Ok p) (hKq : KOk q) {a c : List (List Nat)} (ha : Em p a) (hc : Em q c) : onlyL F c = thrL F a := h.order hO.refs hKq ha hc
theorem thrL_len (F : List Nat) (a : List (List Nat)) : (thrL F a).length = a.length := by simp [thrL]
theorem thrL_size {F : List Nat} {a : List (List Nat)} (h : ∀ x ∈ a, x.length ≤ 100) : ∀ x ∈ lists (thrL F a), x.length ≤ 9223372036854775807 := by
  intro x hx
  obtain ⟨y, hy, rfl⟩ := List.mem_map.1 hx
  obtain ⟨z, hz, rfl⟩ := List.mem_map.1 hy
  have := h z hz
  rw [ints_length, List.length_map]
  omega

set_option maxHeartbeats 8000000 in
set_option maxRecDepth 100000 in
theorem fnApart_walk (w : World) (ok : Nat → Prop) (A : Option Addr) (c : Nat) (p : List It) (A' : Option Addr) (c' : Nat) (q : List It) (C : Option Addr) (cC : Nat) (fl : List Bool) (hp : Its w ok (.slice A p.length c) p) (hq : Its w ok (.slice A' q.length c') q)
    (hf : Bools w ok (.slice C fl.length cC) fl) (hw : wt p ≤ 1048576) (hw' : wt q ≤ 1048576) (hwf : fl.length ≤ 1048576) :
    Calls Tryz.prog 3 #[.slice A p.length c, .slice A' q.length c', .slice C fl.length cC] w (PTrue' w) := by
  have hpl := length_le_wt p
  have hql := length_le_wt q
  have hwk := works_any
  have hfl : ¬ (2147483647 < (fl.length : Int)) := by omega
  go_enter Tryz.func3, Tryz.ntmps3
  have HZ1 := Lib.hid (zz1_any w ok A c p hp (by omega))
  go_wp2_with (go_at_call 16; refine HZ1.out.mono ?_; clear HZ1; rintro e w1 ⟨b1, rfl, hb1, hg1⟩; clear hb1; cases b1)
  · go_wp2
    go_ret
    exact ⟨rfl, hg1⟩
  · have HZ2 := Lib.hid (zz1_any w1 ok A' c' q (hq.gr hg1) (by omega))
    go_wp2_with (go_at_call 16; refine HZ2.out.mono ?_; clear HZ2; rintro e w2 ⟨b2, rfl, hb2, hg2⟩; clear hb2; cases b2)
    · go_wp2
      go_ret
      exact ⟨rfl, hg1.trans hg2⟩
    · have hg12 := hg1.trans hg2
      have HR1 := Lib.hid (read_any w2 ok A c p (hp.gr hg12) (by omega))
      go_wp2_with (first
        | (go_at_call 17; refine HR2.out.mono ?_; clear HR2; rintro e w4 ⟨v4, rfl, hq4, hg4⟩; replace hq4 := hq4.its; obtain ⟨A4, c4, rfl⟩ := hq4.val; have hg24 := (hg12.trans hg3).trans hg4; replace hp3 := hp3.gr hg4; have HV1 := Lib.hid (valid_any w4 (fun _ => True) A3 c3 p hp3 (by omega)))
        | (go_at_call 17; refine HR1.out.mono ?_; clear HR1; rintro e w3 ⟨v3, rfl, hp3, hg3⟩; replace hp3 := hp3.its; obtain ⟨A3, c3, rfl⟩ := hp3.val; have HR2 := Lib.hid (read_any w3 ok A' c' q ((hq.gr hg12).gr hg3) (by omega)))
        | (go_at_call 18; refine HV1.out.mono ?_; clear HV1; rintro e w5 ⟨b5, rfl, hb5, hg5⟩; have Hb5 := Lib.hid hb5; clear hb5; cases b5))
      · go_wp2
        go_ret
        exact ⟨rfl, hg24.trans hg5⟩
      · have HV2 := Lib.hid (valid_any w5 (fun _ => True) A4 c4 q (hq4.gr hg5) (by omega))
        go_wp2_with (go_at_call 18; refine HV2.out.mono ?_; clear HV2; rintro e w6 ⟨b6, rfl, hb6, hg6⟩; have Hb6 := Lib.hid hb6; clear hb6; cases b6)
        · go_wp2
          go_ret
          exact ⟨rfl, (hg24.trans hg5).trans hg6⟩
        · have hO := ok_of_valid (Hb5.out.1 (by trivial)) (by omega)
          have hOq := ok_of_valid (Hb6.out.1 (by trivial)) (by omega)
          have hla := (Hb5.out.1 (by trivial)).1.1
          have hlb := (Hb6.out.1 (by trivial)).1.1
          have hg26 := (hg24.trans hg5).trans hg6
          have hp6 := hp3.gr (hg5.trans hg6)
          have hq6 := hq4.gr (hg5.trans hg6)
          have hOm := mixed_ok (fl := fl) hO hOq hla hlb
          have hcp := cnt_le hO.kinds
          have hcq := cnt_le hOq.kinds
          have hcm := cnt_le hOm.kinds
          have hml := mixed_length p q fl
          have HM := Lib.hid (Mixed_any w6 (fun _ => True) (fun _ => True) ok A3 A4 C c3 c4 cC p q fl hp6 hq6 (hf.gr hg26) hO.kinds hOq.kinds hO.refs hOq.refs hla hlb (by omega) (by omega) (by omega))
          have hF := (mixed_two p q fl).fst.len
          have hG := (mixed_two p q fl).snd.len
          have HFl := Lib.hid hF
          have HGl := Lib.hid hG
          have Hml := Lib.hid hml
          clear hF hG hml
          go_wp2_with (go_at_call 19; refine HM.out.mono ?_; clear HM; rintro e w7 ⟨v7, vf, vs, rfl, ⟨Bm, hm7⟩, hf7, hs7, hg7⟩; replace hm7 := hm7.its; obtain ⟨A7, c7, hv7⟩ := hm7.val; obtain ⟨A8, c8, hv8⟩ := hf7.val; obtain ⟨A9, c9, hv9⟩ := hs7.val; rw [ints_length] at hv8 hv9; subst hv7; subst hv8; subst hv9; have HA := Lib.hid (order_law_any w7 (fun _ => True) A3 c3 p (hp6.gr hg7) hO))
          go_wp2_with (go_at_call 20; refine HA.out.mono ?_; clear HA; rintro e w8 ⟨v8, la, rfl, hema, hl8, hg8⟩; obtain ⟨A10, c10, hv⟩ := hl8.val; rw [lists_length] at hv; subst hv; have HB := Lib.hid (order_law_any w8 (fun _ => True) A4 c4 q ((hq6.gr hg7).gr hg8) hOq))
          go_wp2_with (go_at_call 20; refine HB.out.mono ?_; clear HB; rintro e w9 ⟨v9, lb, rfl, hemb, hl9, hg9⟩; obtain ⟨A11, c11, hv⟩ := hl9.val; rw [lists_length] at hv; subst hv; have HC := Lib.hid (order_law_any w9 (fun _ => True) A7 c7 (mixed p q fl) ((hm7.gr hg8).gr hg9) hOm))
          go_wp2_with (go_at_call 20; refine HC.out.mono ?_; clear HC; rintro e w10 ⟨v10, lc, rfl, hemc, hl10, hg10⟩; obtain ⟨A12, c12, hv⟩ := hl10.val; rw [lists_length] at hv; subst hv)
          have hT := mixed_two p q fl
          have HE1 := Lib.hid (apart_law hT.fst hO hOm.kinds hema hemc)
          have HE2 := Lib.hid (apart_law hT.snd hOq hOm.kinds hemb hemc)
          have hlen : lc.length = la.length + lb.length := by
            have h1 := hT.length hOm.kinds hemc
            have h2 := congrArg List.length HE1.out
            have h3 := congrArg List.length HE2.out
            rw [thrL_len] at h2 h3
            unfold onlyL at h2 h3
            omega
          have hsa := Em.size hO.kinds hema
          have hsb := Em.size hOq.kinds hemb
          have Hsa := Lib.hid hsa.2
          have Hsb := Lib.hid hsb.2
          have Hla := Lib.hid (em_lt hO.kinds hema)
          have Hlb := Lib.hid (em_lt hOq.kinds hemb)
          have Hlc := Lib.hid (fun g hg => (em_lt hOm.kinds hemc g hg).1)
          have hlal : la.length ≤ 209715200 := by omega
          have hlbl : lb.length ≤ 209715200 := by omega
          have hlcl : lc.length ≤ 419430400 := by omega
          have hlee : ((lc.length : Int) == (la.length : Int) + (lb.length : Int)) = true := by simp; omega
          have hg610 := (hg8.trans hg9).trans hg10
          have hla10 := hl8.gr (hg9.trans hg10)
          have hlb10 := hl9.gr hg10
          have hf10 := hf7.gr hg610
          have hs10 := hs7.gr hg610
          have Hlen := Lib.hid hlen
          clear hT hsa hsb hema hemb hemc hlen hl8 hl9 hcp hcq hcm
          have HT1 := Lib.hid (through_any w10 (fun _ => True) (fun _ => True) A10 A8 c10 c8 la (fstN p q fl) hla10 hf10 (by omega) (fun g hg => ⟨by have := Hsa.out g hg; omega, fun n hn => by rw [HFl.out]; exact (Hla.out g hg).2 n hn⟩))
          go_wp2_with (first
            | (go_at_call 21; refine HX1.out.mono ?_; clear HX1; rintro e w13 ⟨rfl, hq13⟩; have hg13 := hq13.gr)
            | (go_at_call 23; refine HN1.out.mono ?_; clear HN1; rintro e w12 ⟨v12, rfl, hi12, hg12'⟩; rw [HE1.out] at hi12; replace hi12 := hi12.lists; obtain ⟨A14, c14, rfl⟩ := hi12.val; have HX1 := Lib.hid (lists_any w12 (fun _ => True) (fun _ => True) A13 A14 c13 c14 (lists (thrL (fstN p q fl) la)) (lists (thrL (fstN p q fl) la)) (hi11.gr hg12') hi12 (by rw [lists_length, thrL_len]; omega) (thrL_size Hsa.out)); rw [decide_eq_true rfl] at HX1)
            | (go_at_call 22; refine HT1.out.mono ?_; clear HT1; rintro e w11 ⟨v11, rfl, hi11, hg11⟩; replace hi11 := hi11.lists; obtain ⟨A13, c13, rfl⟩ := hi11.val; have HN1 := Lib.hid (only_any w11 (fun _ => True) (fun _ => True) A12 A8 c12 c8 lc (fstN p q fl) (hl10.gr hg11) (hf10.gr hg11) (by omega) (by rw [HFl.out]; have := cnt_le hO.kinds; omega) Hlc.out)))
          have hg1013 := (hg11.trans hg12').trans hg13
          have HT2 := Lib.hid (through_any w13 (fun _ => True) (fun _ => True) A11 A9 c11 c9 lb (sndN p q fl) (hlb10.gr hg1013) (hs10.gr hg1013) (by omega) (fun g hg => ⟨by have := Hsb.out g hg; omega, fun n hn => by rw [HGl.out]; exact (Hlb.out g hg).2 n hn⟩))
          go_wp2_with (first
            | (go_at_call 21; refine HX2.out.mono ?_; clear HX2; rintro e w16 ⟨rfl, hq16⟩; have hg16 := hq16.gr)
            | (go_at_call 23; refine HN2.out.mono ?_; clear HN2; rintro e w15 ⟨v15, rfl, hi15, hg15⟩; rw [HE2.out] at hi15; replace hi15 := hi15.lists; obtain ⟨A16, c16, rfl⟩ := hi15.val; have HX2 := Lib.hid (lists_any w15 (fun _ => True) (fun _ => True) A15 A16 c15 c16 (lists (thrL (sndN p q fl) lb)) (lists (thrL (sndN p q fl) lb)) (hi14.gr hg15) hi15 (by rw [lists_length, thrL_len]; omega) (thrL_size Hsb.out)); rw [decide_eq_true rfl] at HX2)
            | (go_at_call 22; refine HT2.out.mono ?_; clear HT2; rintro e w14 ⟨v14, rfl, hi14, hg14⟩; replace hi14 := hi14.lists; obtain ⟨A15, c15, rfl⟩ := hi14.val; have HN2 := Lib.hid (only_any w14 (fun _ => True) (fun _ => True) A12 A9 c12 c9 lc (sndN p q fl) ((hl10.gr hg1013).gr hg14) ((hs10.gr hg1013).gr hg14) (by omega) (by rw [HGl.out]; have := cnt_le hOq.kinds; omega) Hlc.out)))
          go_wp2_with (go_at_call 24; refine (hwk _).mono ?_; rintro e w17 ⟨rfl, hg17⟩)
          go_ret
          exact ⟨rfl, ((((hg26.trans hg7).trans hg610).trans hg1013).trans ((hg14.trans hg15).trans hg16)).trans hg17⟩
end Go.Proofs.YtelfaljidgfphaaGreat
