/-
  The walk of FnSource.
-/
import Derived.Test.YtelfaljidgfphaaGreatM2
namespace Go.Proofs.YtelfaljidgfphaaGreat
open Go.RowKit

theorem ok_of_fit {p : List It} (h : Fit p) (hA : Acy p) (hw : wt p ≤ 4194304) : Ok p where
  len := by have := h.1; omega
  kinds := h.2.1
  refs := h.2.2.1
  wt k hk := by have := refs_le_wt hk; omega
  const r hr h4 := by
    obtain ⟨h1, h2, h3⟩ := own_spec hr
    have h5 := h.2.2.2 (own p r) h1 h4
    have hn : (it p (own p r)).n = 1 := by
      unfold kindAt at h4
      simp [It.n, h4]
    have : start p (own p r) = r := by omega
    rwa [this] at h5
  acy := hA

def NoNeeds (p : List It) (m : Nat) : Prop := ∀ k, k < m → (it p k).kind ≠ 3 → (it p k).kind ≠ 4 → ∀ r : Nat, (needs p k)[r]? ≠ some true

theorem sorted_same : ∀ {a b : List Nat}, a.Pairwise (· < ·) → b.Pairwise (· < ·) → (∀ x, x ∈ a ↔ x ∈ b) → a = b := by
  intro a b ha hb h
  refine List.Perm.eq_of_pairwise (le := fun x y : Nat => x ≤ y) (fun x y _ _ h1 h2 => by omega) (ha.imp (fun h => by omega)) (hb.imp (fun h => by omega)) ?_
  have h1 : a.Nodup := ha.imp (fun h => by omega)
  have h2 : b.Nodup := hb.imp (fun h => by omega)
  exact (List.perm_ext_iff_of_nodup h1 h2).2 h

theorem start_strict {p : List It} (hK : KOk p) {j k : Nat} (h : j < k) (hk : k < p.length) : start p j < start p k := by
  have h1 := start_succ (it_get (p := p) (k := j) (by omega))
  have h2 := (n_pos hK (it_mem (p := p) (k := j) (by omega))).1
  have h3 := start_mono (p := p) (j := j + 1) (k := k) (by omega) (by omega)
  omega

open Classical in
/-- Where nothing is needed: the initializers in the order of their declarations. -/
theorem source_law {p : List It} (hK : KOk p) (h : NoNeeds p p.length) : Acy p ∧ ∀ l, Em p l → l = inits p := by
  have hN : ∀ v s, Vn p v → (False ↔ Nn p v s) := fun v s hv => by
    refine ⟨fun h => h.elim, fun hs => ?_⟩
    have hk := (kinds hK hv.1).2 hv.2
    exact h (own p v) (own_spec hv.1).1 hk.1 hk.2 s (needs_iff.2 ⟨hs.2.1, hs.1, hs.2.2⟩)
  have hG : Gdy (Vn p) (Nn p) ((List.range (cnt p)).filter fun v => decide (Vn p v)) := (Gdy.sorted (V := Vn p) (N := fun _ _ => False) (fun _ _ h => h) (cnt p)).congr (fun _ => Iff.rfl) hN
  have hF : FullG (Vn p) ((List.range (cnt p)).filter fun v => decide (Vn p v)) := fun v hv => List.mem_filter.2 ⟨List.mem_range.2 hv.1, by simpa using hv⟩
  refine ⟨⟨_, hG, hF⟩, fun l hl => ?_⟩
  refine hl.unique ⟨_, hG, hF, ?_⟩
  unfold emit inits initsTo
  have e : ((List.range (cnt p)).filter fun v => decide (Vn p v)).filter (fun r => (it p (own p r)).ini && (r == start p (own p r))) = ((List.range p.length).filter fun k => (it p k).ini).map (start p) := by
    refine sorted_same ((List.pairwise_lt_range.filter _).filter _) ?_ fun x => ?_
    · rw [List.pairwise_map]
      refine List.Pairwise.imp_of_mem (R := fun a b : Nat => a < b) (fun {a b} ha hb hab => ?_) (List.pairwise_lt_range.filter _)
      exact start_strict hK hab (List.mem_range.1 (List.mem_filter.1 hb).1)
    · rw [List.mem_filter, List.mem_filter, List.mem_map]
      constructor
      · rintro ⟨⟨h1, h2⟩, h3⟩
        simp only [Bool.and_eq_true, beq_iff_eq] at h3
        have hx := List.mem_range.1 h1
        exact ⟨own p x, List.mem_filter.2 ⟨List.mem_range.2 (own_spec hx).1, h3.1⟩, h3.2.symm⟩
      · rintro ⟨k, hk, rfl⟩
        obtain ⟨h1, h2⟩ := List.mem_filter.1 hk
        have hkl := List.mem_range.1 h1
        have hn := (n_pos hK (it_mem hkl)).1
        have h3 := own_start (p := p) (k := k) (j := 0) hkl (by omega)
        have h4 := start_lt (p := p) (k := k) (j := 0) hkl (by omega)
        rw [Nat.add_zero] at h3 h4
        have hv : (it p k).var = true := by
          unfold It.ini at h2
          unfold It.var
          simp only [Bool.or_eq_true, beq_iff_eq] at h2 ⊢
          omega
        refine ⟨⟨List.mem_range.2 h4, ?_⟩, ?_⟩
        · simp only [decide_eq_true_eq]
          exact ⟨h4, by rw [h3]; exact hv⟩
        · rw [h3, h2]; simp
  rw [e, List.map_map]
  refine (List.map_congr_left fun k hk => ?_).symm
  have hkl := List.mem_range.1 (List.mem_filter.1 hk).1
  have hn := (n_pos hK (it_mem hkl)).1
  have h3 := own_start (p := p) (k := k) (j := 0) hkl (by omega)
  rw [Nat.add_zero] at h3
  simp [h3]

def SrcRel1 (w : World) (p : List It) (i : Value) (wr : World) : Prop := ∃ k : Nat, k ≤ p.length ∧ i = .int .i64 k ∧ NoNeeds p k ∧ Gr w wr
def SrcRel2 (w : World) (p : List It) (k : Nat) (i : Value) (wr : World) : Prop := ∃ m : Nat, m ≤ cnt p ∧ i = .int .i64 m ∧ (∀ s, s < m → (needs p k)[s]? ≠ some true) ∧ Gr w wr

set_option maxHeartbeats 4000000 in
set_option maxRecDepth 100000 in
theorem fnSource_walk (w : World) (ok : Nat → Prop) (A : Option Addr) (c : Nat) (p : List It) (hp : Its w ok (.slice A p.length c) p) (hw : wt p ≤ 1048576) :
    Calls Tryz.prog 12 #[.slice A p.length c] w (PTrue' w) := by
  have hpl := length_le_wt p
  have hwk := works_any
  go_enter Tryz.func12, Tryz.ntmps12
  go_wp2_with (go_at_call 16; refine (zz1_any w ok A c p hp (by omega)).mono ?_; rintro e w1 ⟨b1, rfl, hb1, hg1⟩; clear hb1; cases b1)
  · go_wp2
    go_ret
    exact ⟨rfl, hg1⟩
  · go_wp2_with (first
      | (go_at_call 35; refine (Fit_any w2 (fun _ => True) A2 c2 p hp2 (by omega)).mono ?_; rintro e w3 ⟨b3, rfl, hb3, hg3⟩; have Hb3 := Lib.hid hb3; clear hb3; cases b3)
      | (go_at_call 17; refine (read_any w1 ok A c p (hp.gr hg1) (by omega)).mono ?_; rintro e w2 ⟨v2, rfl, hp2, hg2⟩; replace hp2 := hp2.its; obtain ⟨A2, c2, rfl⟩ := hp2.val))
    · go_wp2
      go_ret
      exact ⟨rfl, (hg1.trans hg2).trans hg3⟩
    · have hFit := Hb3.out.1 (by trivial)
      have HFit := Lib.hid hFit
      obtain ⟨hl, hk, hr, -⟩ := hFit
      have hcnt := cnt_le hk
      have hg123 := (hg1.trans hg2).trans hg3
      have hp3 := hp2.gr hg3
      clear hp2
      go_wp2
      go_loopw [20] (SrcRel1 w3 p) (fun i _ => p.length - (intOf i).toNat)
      case atStart => exact ⟨0, by omega, rfl, fun k hk => by omega, Gr.refl w3⟩
      case round =>
        obtain ⟨k, hkp, rfl, hall, hgr⟩ := hrel
        have Hall := Lib.hid hall
        clear hall
        by_cases hlt : k < p.length
        · obtain ⟨b, o, A', c', rfl, -, -, c0, c1, c2', -⟩ := (hp3.gr hgr).at_ hlt
          by_cases h3 : (it p k).kind = 3
          · have d3 : ((it p k).kind == 3) = true := by simp [h3]
            have H3 := Lib.hid h3
            clear h3
            go_wp2
            go_roundw
            case rel => exact ⟨k + 1, by omega, by go_num, fun j hj h => if e : j = k then absurd H3.out (e ▸ h) else Hall.out j (by omega) h, hgr.alloc _⟩
            case measure => simp [intOf]; omega
          · have d3 : ((it p k).kind == 3) = false := by simp [h3]
            have H3 := Lib.hid h3
            clear h3
            by_cases h4 : (it p k).kind = 4
            · have d4 : ((it p k).kind == 4) = true := by simp [h4]
              have H4 := Lib.hid h4
              clear h4
              go_wp2
              go_roundw
              case rel => exact ⟨k + 1, by omega, by go_num, fun j hj h h' => if e : j = k then absurd H4.out (e ▸ h') else Hall.out j (by omega) h h', hgr.alloc _⟩
              case measure => simp [intOf]; omega
            · have d4 : ((it p k).kind == 4) = false := by simp [h4]
              have H4 := Lib.hid h4
              clear h4
              go_wp2_with (go_at_call 36; refine (Needs_any _ (fun _ => True) _ c2 p k (hp3.gr (hgr.alloc _)) hk hr (by omega) (by omega) hlt).mono ?_; rintro e w5 ⟨v5, rfl, ho5, hg5⟩; obtain ⟨A5, c5, rfl⟩ := ho5.val)
              go_loopw [37] (SrcRel2 w5 p k) (fun i _ => cnt p - (intOf i).toNat)
              case atStart => exact ⟨0, by omega, rfl, by omega, Gr.refl w5⟩
              case round =>
                rename World => w6
                obtain ⟨m, hm, rfl, hno, hg6⟩ := hrel
                have Hno := Lib.hid hno
                clear hno
                by_cases hmt : m < cnt p
                · obtain ⟨g5, o5, cap5, cur5, he5, -, -, -, -, hc5⟩ := (ho5.gr hg6).at_ (by omega)
                  simp only [Value.slice.injEq] at he5
                  obtain ⟨rfl, -, rfl⟩ := he5
                  obtain ⟨bb, hbb⟩ := get_lt (l := needs p k) (k := m) (by rw [needs_length]; omega)
                  have cb := hc5 m (.bool bb) (by rw [List.getElem?_map, hbb]; rfl)
                  have Hbb := Lib.hid hbb
                  clear hc5 hbb
                  cases bb
                  · go_wp2
                    go_roundw
                    case rel => exact ⟨m + 1, by omega, by go_num, fun s hs => if e : s = m then (by rw [e, Hbb.out]; simp) else Hno.out s (by omega), hg6⟩
                    case measure => simp [intOf]; omega
                  · go_wp2
                    go_ret
                    exact ⟨rfl, ((hg123.trans (hgr.alloc _)).trans hg5).trans hg6⟩
                · go_wp2
                  go_roundw
                  case rel => exact ⟨k + 1, by omega, by go_num, fun j hj h h' => if e : j = k then (fun r hr' => by
                    subst e
                    have hrl := (List.getElem?_eq_some_iff.1 hr').1
                    rw [needs_length] at hrl
                    exact Hno.out r (by omega) hr') else Hall.out j (by omega) h h', (((hgr.alloc _).trans hg5).trans hg6)⟩
                  case measure => simp [intOf]; omega
        · have hk0 : k = p.length := by omega
          subst hk0
          obtain ⟨hA, hEm⟩ := source_law hk Hall.out
          have hO := ok_of_fit HFit.out hA (by omega)
          have HEm := Lib.hid hEm
          have hlen := hO.len
          clear hEm hA
          go_wp2_with (first
            | (go_at_call 24; refine (hwk _).mono ?_; rintro e w8 ⟨rfl, hg8⟩)
            | (go_at_call 21; refine hcmp.mono ?_; rintro e w7 ⟨rfl, hq7⟩)
            | (go_at_call 37; refine (Initializers_any w5 (fun _ => True) A2 c2 p (hp3.gr (hgr.trans hg5)) hk hlen).mono ?_; rintro e w6 ⟨v6, rfl, hl6, hg6⟩; replace hl6 := hl6.lists; obtain ⟨A6, c6, rfl⟩ := hl6.val; have hsz := Em.size hk hem5; have hcmp := lists_any w6 (fun _ => True) (fun _ => True) A5 A6 c5 c6 _ _ (hl5.gr hg6) hl6 (by rw [lists_length]; omega) (fun x hx => by obtain ⟨y, hy, rfl⟩ := List.mem_map.1 hx; have := hsz.2 y hy; rw [ints_length]; omega); rw [decide_eq_true rfl] at hcmp; clear hsz)
            | (go_at_call 20; refine (order_law_any wr (fun _ => True) A2 c2 p (hp3.gr hgr) hO).mono ?_; rintro e w5 ⟨v5, l5, rfl, hem5, hl5, hg5⟩; obtain rfl := HEm.out _ hem5; obtain ⟨A5, c5, rfl⟩ := hl5.val))
          go_ret
          exact ⟨rfl, (((hg123.trans hgr).trans hg5).trans hg6).trans (hq7.gr.trans hg8)⟩
end Go.Proofs.YtelfaljidgfphaaGreat
