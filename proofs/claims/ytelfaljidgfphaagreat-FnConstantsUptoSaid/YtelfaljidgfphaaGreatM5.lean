/-
  The walks of FnConstants and FnPlain.
-/
import Derived.Test.YtelfaljidgfphaaGreatN3
import Derived.Test.YtelfaljidgfphaaGreatM4
namespace Go.Proofs.YtelfaljidgfphaaGreat
open Go.RowKit

theorem wit_same (p : List It) (K : Int) : Same p (without p K) := newTo_same p (witF p K) p.length
theorem wit_mem {p : List It} {K : Int} {k : Nat} {x : Int} : x ∈ (it (without p K) k).refs ↔ x ∈ (it p k).refs ∧ (it p k).kind ≠ K ∧ (it p (own p x.toNat)).kind ≠ K := by
  by_cases hk : k < p.length
  · unfold without
    rw [it_newTo hk, if_pos hk]
    unfold witF
    rw [List.mem_filter]
    simp [witP]
  · rw [it_out (by rw [(wit_same p K).len]; exact hk), it_out hk]
    simp

theorem rch_sub_func {p q : List It} (h : Same p q) (hE : ∀ k (r : Nat), (r : Int) ∈ (it q k).refs → (r : Int) ∈ (it p k).refs) {k r : Nat} (hr : Rch q fFunc k r) : Rch p fFunc k r := by
  induction hr with
  | ref h1 => exact .ref (hE _ _ h1)
  | @step a b _ h2 h3 ih =>
    rw [h.own] at h2 h3
    refine .step ih ?_ (hE _ _ h3)
    unfold fFunc at h2 ⊢
    rw [(h.it _).1] at h2
    exact h2

/-- What functions lead to, where nothing of the kind K is in the way. -/
theorem wit_rch {p : List It} {K : Int} (hK : K ≠ 3) {k r : Nat} (h : Rch p fFunc k r) (hk : (it p k).kind ≠ K) : (it p (own p r)).kind ≠ K → Rch (without p K) fFunc k r := by
  have hS := wit_same p K
  induction h with
  | ref h1 => exact fun h2 => .ref (wit_mem.2 ⟨h1, hk, by rw [Int.toNat_natCast]; exact h2⟩)
  | @step a s _ h2 h3 ih =>
    intro h4
    have h5 : (it p (own p a)).kind = 3 := by unfold fFunc at h2; simpa using h2
    have h6 := ih (by rw [h5]; exact fun e => hK e.symm)
    refine .step h6 ?_ ?_
    · rw [hS.own]
      unfold fFunc
      rw [(hS.it _).1, h5]
      rfl
    · rw [hS.own]
      exact wit_mem.2 ⟨h3, by rw [h5]; exact fun e => hK e.symm, by rw [Int.toNat_natCast]; exact h4⟩

theorem wit_sub {p : List It} {K : Int} (k : Nat) (r : Nat) (h : (r : Int) ∈ (it (without p K) k).refs) : (r : Int) ∈ (it p k).refs := (wit_mem.1 h).1

theorem wit_ok {p : List It} {K : Int} (hO : Ok p) (hA : Acy (without p K)) : Ok (without p K) := by
  refine hO.same (wit_same p K) (fun k h2 => ?_) (fun k r hr => ?_) (fun k hk => ?_) (fun k r hr => .ref (wit_sub k r hr)) hA
  · apply Classical.byContradiction
    intro hc
    obtain ⟨x, hx⟩ := List.exists_mem_of_ne_nil _ hc
    have h3 := (wit_mem.1 hx).1
    by_cases hk : k < p.length
    · rw [(hO.kinds _ (it_mem hk)).2.2.2.2 h2] at h3; simp at h3
    · rw [it_out hk] at h3; simp at h3
  · have h3 := (wit_mem.1 hr).1
    by_cases hk : k < p.length
    · exact hO.refs _ (it_mem hk) r h3
    · rw [it_out hk] at h3; simp at h3
  · unfold without
    rw [it_newTo hk, if_pos hk]
    unfold witF
    have h1 := hO.wt k hk
    have h2 := List.length_filter_le (witP p K k) (it p k).refs
    show ((it p k).refs.filter (witP p K k)).length ≤ _
    omega

theorem const_needs {p : List It} (v s : Nat) (hv : Vn p v) : Nn p v s ↔ Nn (without p 4) v s := by
  have hS := wit_same p 4
  unfold Nn
  rw [hS.cnt, hS.own, hS.own, hS.var]
  have hk : ∀ r, (it p (own p r)).var = true → (it p (own p r)).kind ≠ 4 := fun r hr e => by unfold It.var at hr; rw [e] at hr; simp at hr
  constructor
  · rintro ⟨h1, h2, h3⟩
    exact ⟨wit_rch (by decide) h1 (hk v hv.2) (hk s h3), h2, h3⟩
  · rintro ⟨h1, h2, h3⟩
    exact ⟨rch_sub_func hS wit_sub h1, h2, h3⟩

theorem plain_law {p : List It} (hO : Ok p) (hP : PFirst p) {L : List Nat} (hL : Gdy (Vn p) (Nn p) L) : Gdy (Vn (without p 2)) (Nn (without p 2)) L := by
  have hS := wit_same p 2
  have hK := hO.kinds
  have hsub : ∀ v s, Nn (without p 2) v s → Nn p v s := fun v s => by
    unfold Nn
    rw [hS.cnt, hS.own, hS.own, hS.var]
    rintro ⟨h1, h2, h3⟩
    exact ⟨rch_sub_func hS wit_sub h1, h2, h3⟩
  have hback : ∀ v s, (it p (own p v)).kind ≠ 2 → (it p (own p s)).kind ≠ 2 → Nn p v s → Nn (without p 2) v s := fun v s h1 h2 => by
    unfold Nn
    rw [hS.cnt, hS.own, hS.own, hS.var]
    rintro ⟨h3, h4, h5⟩
    exact ⟨wit_rch (by decide) h3 h1 h2, h4, h5⟩
  have hini : ∀ r, Vn p r → (it p (own p r)).kind ≠ 2 → (it p (own p r)).ini = true := fun r hr h2 => by
    have := hr.2
    unfold It.var at this
    unfold It.ini
    simp only [Bool.or_eq_true, beq_iff_eq] at this ⊢
    omega
  have hnone : ∀ t s, Vn p t → (it p (own p t)).kind = 2 → ¬ Nn p t s := fun t s ht h2 hn => rch_none ((hK _ (it_mem (own_spec ht.1).1)).2.2.2.2 h2) hn.1
  refine hL.turn fun a v ha _ hc hm => ⟨⟨(hS.vn v).1 hc.1, hc.2.1, fun s hs => hc.2.2 s (hsub v s hs)⟩, fun u hu hcu => ?_⟩
  have hVu := (hS.vn u).2 hcu.1
  have hul := hVu.1
  have hvl := hc.1.1
  by_cases h2 : (it p (own p u)).kind = 2
  · exact hm u hu ⟨hVu, hcu.2.1, fun s hs => absurd hs (hnone u s hVu h2)⟩
  · have hou := own_mono (p := p) (r := u) (s := v) hvl (by omega)
    have hv2 : (it p (own p v)).kind ≠ 2 := fun e => by
      have hne : own p u ≠ own p v := fun e' => h2 (e' ▸ e)
      have := hP (own p v) (own_spec hvl).1 e (own p u) (by omega)
      rw [hini u hVu h2] at this
      cases this
    have hall : ∀ t, Vn p t → (it p (own p t)).kind = 2 → t ∈ a := fun t ht ht2 => by
      apply Classical.byContradiction
      intro hta
      have h3 : ¬ t < v := fun hlt => hm t hlt ⟨ht, hta, fun s hs => absurd hs (hnone t s ht ht2)⟩
      have hne : own p v ≠ own p t := fun e => hv2 (e ▸ ht2)
      have h4 := own_mono (p := p) (r := v) (s := t) ht.1 (by omega)
      have := hP (own p t) (own_spec ht.1).1 ht2 (own p v) (by omega)
      rw [hini v hc.1 hv2] at this
      cases this
    refine hm u hu ⟨hVu, hcu.2.1, fun s hs => ?_⟩
    by_cases hs2 : (it p (own p s)).kind = 2
    · exact hall s ⟨hs.2.1, hs.2.2⟩ hs2
    · exact hcu.2.2 s (hback u s h2 hs2 hs)

theorem plain_ok {p : List It} (hO : Ok p) (hP : PFirst p) : Ok (without p 2) ∧ ∀ a, Em p a → Em (without p 2) a := by
  have hS := wit_same p 2
  refine ⟨wit_ok hO ?_, fun a ha => ?_⟩
  · obtain ⟨L, h1, h2⟩ := hO.acy
    exact ⟨L, plain_law hO hP h1, fun v hv => h2 v ((hS.vn v).2 hv)⟩
  · obtain ⟨L, h1, h2, rfl⟩ := ha
    exact ⟨L, plain_law hO hP h1, fun v hv => h2 v ((hS.vn v).2 hv), (hS.emit L).symm⟩
theorem const_ok {p : List It} (hO : Ok p) : Ok (without p 4) ∧ ∀ a, Em p a → Em (without p 4) a :=
  ⟨wit_ok hO (hO.acy.same (wit_same p 4) const_needs), fun _ ha => ha.same (wit_same p 4) const_needs⟩

set_option maxHeartbeats 1000000 in
set_option maxRecDepth 100000 in
theorem fnConstants_walk (w : World) (ok : Nat → Prop) (A : Option Addr) (c : Nat) (p : List It) (hp : Its w ok (.slice A p.length c) p) (hw : wt p ≤ 1048576) :
    Calls Tryz.prog 4 #[.slice A p.length c] w (PTrue' w) := by
  have hpl := length_le_wt p
  go_enter Tryz.func4, Tryz.ntmps4
  go_wp2_with (go_at_call 16; refine (zz1_any w ok A c p hp (by omega)).mono ?_; rintro e w1 ⟨b1, rfl, hb1, hg1⟩; clear hb1; cases b1)
  · go_wp2
    go_ret
    exact ⟨rfl, hg1⟩
  · go_wp2_with (first
      | (go_at_call 18; refine (valid_any w2 (fun _ => True) A2 c2 p hp2 (by omega)).mono ?_; rintro e w3 ⟨b3, rfl, hb3, hg3⟩; have Hb3 := Lib.hid hb3; clear hb3; cases b3)
      | (go_at_call 17; refine (read_any w1 ok A c p (hp.gr hg1) (by omega)).mono ?_; rintro e w2 ⟨v2, rfl, hp2, hg2⟩; replace hp2 := hp2.its; obtain ⟨A2, c2, rfl⟩ := hp2.val))
    · go_wp2
      go_ret
      exact ⟨rfl, (hg1.trans hg2).trans hg3⟩
    · have hV := Hb3.out.1 (by trivial)
      have hO := ok_of_valid hV (by omega)
      obtain ⟨hO', he⟩ := const_ok hO
      have HE := Lib.hid he
      clear he hV
      go_wp2_with (first
        | (go_at_call 25; refine (equal_any w4 (fun _ => True) (fun _ => True) A2 A4 c2 c4 p (without p 4) (hp2.gr (hg3.trans hg4)) hq4 hO hO' HE.out).mono ?_; rintro e w5 ⟨rfl, hg5⟩)
        | (go_at_call 26; refine (Without_any w3 (fun _ => True) A2 c2 p 4 (hp2.gr hg3) hO.kinds hO.refs hO.len (by omega)).mono ?_; rintro e w4 ⟨v4, rfl, ⟨B4, hq4⟩, hg4⟩; replace hq4 := hq4.its; obtain ⟨A4, c4, rfl⟩ := hq4.val))
      go_ret
      exact ⟨rfl, (((hg1.trans hg2).trans hg3).trans hg4).trans hg5⟩

set_option maxHeartbeats 1000000 in
set_option maxRecDepth 100000 in
theorem fnPlain_walk (w : World) (ok : Nat → Prop) (A : Option Addr) (c : Nat) (p : List It) (hp : Its w ok (.slice A p.length c) p) (hw : wt p ≤ 1048576) :
    Calls Tryz.prog 10 #[.slice A p.length c] w (PTrue' w) := by
  have hpl := length_le_wt p
  go_enter Tryz.func10, Tryz.ntmps10
  go_wp2_with (go_at_call 16; refine (zz1_any w ok A c p hp (by omega)).mono ?_; rintro e w1 ⟨b1, rfl, hb1, hg1⟩; clear hb1; cases b1)
  · go_wp2
    go_ret
    exact ⟨rfl, hg1⟩
  · go_wp2_with (first
      | (go_at_call 18; refine (valid_any w2 (fun _ => True) A2 c2 p hp2 (by omega)).mono ?_; rintro e w3 ⟨b3, rfl, hb3, hg3⟩; have Hb3 := Lib.hid hb3; clear hb3; cases b3)
      | (go_at_call 17; refine (read_any w1 ok A c p (hp.gr hg1) (by omega)).mono ?_; rintro e w2 ⟨v2, rfl, hp2, hg2⟩; replace hp2 := hp2.its; obtain ⟨A2, c2, rfl⟩ := hp2.val))
    · go_wp2
      go_ret
      exact ⟨rfl, (hg1.trans hg2).trans hg3⟩
    · have hV := Hb3.out.1 (by trivial)
      have hO := ok_of_valid hV (by omega)
      clear hV
      go_wp2_with (go_at_call 34; refine (PlainFirst_any w3 (fun _ => True) A2 c2 p (hp2.gr hg3) hO.len).mono ?_; rintro e w4 ⟨b4, rfl, hb4, hg4⟩; have Hb4 := Lib.hid hb4; clear hb4; cases b4)
      · go_wp2
        go_ret
        exact ⟨rfl, ((hg1.trans hg2).trans hg3).trans hg4⟩
      · obtain ⟨hO', he⟩ := plain_ok hO (Hb4.out.1 (by trivial))
        have HE := Lib.hid he
        clear he
        go_wp2_with (first
          | (go_at_call 25; refine (equal_any w5 (fun _ => True) (fun _ => True) A2 A5 c2 c5 p (without p 2) (hp2.gr ((hg3.trans hg4).trans hg5)) hq5 hO hO' HE.out).mono ?_; rintro e w6 ⟨rfl, hg6⟩)
          | (go_at_call 26; refine (Without_any w4 (fun _ => True) A2 c2 p 2 (hp2.gr (hg3.trans hg4)) hO.kinds hO.refs hO.len (by omega)).mono ?_; rintro e w5 ⟨v5, rfl, ⟨B5, hq5⟩, hg5⟩; replace hq5 := hq5.its; obtain ⟨A5, c5, rfl⟩ := hq5.val))
        go_ret
        exact ⟨rfl, ((((hg1.trans hg2).trans hg3).trans hg4).trans hg5).trans hg6⟩
end Go.Proofs.YtelfaljidgfphaaGreat
