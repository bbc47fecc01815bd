/-
  The walk of FnMore.
-/
import Derived.Test.YtelfaljidgfphaaGreatM4
namespace Go.Proofs.YtelfaljidgfphaaGreat
open Go.RowKit

theorem needsAll_iff {p : List It} {k r : Nat} : (needsAll p k)[r]? = some true ↔ r < cnt p ∧ Rch p fNoConst k r ∧ (it p (own p r)).var = true := by
  unfold needsAll
  by_cases h : r < cnt p
  · simp [h]
  · simp [h]

/-- One reference more. -/
def moreQ (p : List It) (k r : Nat) : List It := p.set k { it p k with refs := (it p k).refs ++ [(r : Int)] }

theorem set_same (p : List It) (k : Nat) (x : List Int) : Same p (p.set k { it p k with refs := x }) := by
  unfold Same
  rw [List.map_set]
  apply List.ext_getElem?
  intro i
  rw [List.getElem?_set, List.length_map]
  by_cases e : k = i
  · subst e
    rw [if_pos rfl]
    by_cases hk : k < p.length
    · rw [if_pos hk, List.getElem?_map, it_get hk]; rfl
    · rw [if_neg hk, List.getElem?_eq_none (by simpa using hk)]
  · rw [if_neg e]
theorem it_set {p : List It} {k : Nat} (y : It) (hk : k < p.length) (j : Nat) : it (p.set k y) j = if j = k then y else it p j := by
  unfold it
  rw [List.getD_eq_getElem?_getD, List.getD_eq_getElem?_getD, List.getElem?_set]
  by_cases e : k = j
  · subst e; simp [hk]
  · rw [if_neg e, if_neg (fun h => e h.symm)]

section
variable {p : List It} {k r : Nat}
theorem more_same (p : List It) (k r : Nat) : Same p (moreQ p k r) := set_same p k _
theorem more_mem (hk : k < p.length) {j : Nat} {x : Int} : x ∈ (it (moreQ p k r) j).refs ↔ x ∈ (it p j).refs ∨ (j = k ∧ x = (r : Int)) := by
  unfold moreQ
  rw [it_set _ hk]
  by_cases e : j = k
  · subst e
    rw [if_pos rfl]
    simp
  · rw [if_neg e]
    simp [e]
theorem more_up (hk : k < p.length) {j s : Nat} (h : Rch p fFunc j s) : Rch (moreQ p k r) fFunc j s := by
  have hS := more_same p k r
  induction h with
  | ref h1 => exact .ref ((more_mem hk).2 (.inl h1))
  | step _ h2 h3 ih =>
    refine .step ih ?_ (by rw [hS.own]; exact (more_mem hk).2 (.inl h3))
    rw [hS.own]
    unfold fFunc at h2 ⊢
    rw [(hS.it _).1]
    exact h2
theorem more_down (hk : k < p.length) (hk3 : (it p k).kind ≠ 3) (hr : (it p (own p r)).var = true) {j s : Nat} (h : Rch (moreQ p k r) fFunc j s) : Rch p fFunc j s ∨ (j = k ∧ s = r) := by
  have hS := more_same p k r
  induction h with
  | ref h1 =>
    rcases (more_mem hk).1 h1 with h2 | ⟨h2, h3⟩
    · exact .inl (.ref h2)
    · exact .inr ⟨h2, by omega⟩
  | @step a s _ h2 h3 ih =>
    rw [hS.own] at h2 h3
    have h4 : (it p (own p a)).kind = 3 := by
      unfold fFunc at h2
      rw [(hS.it _).1] at h2
      simpa using h2
    rcases ih with ih | ⟨_, rfl⟩
    · rcases (more_mem hk).1 h3 with h5 | ⟨h5, _⟩
      · exact .inl (.step ih (by unfold fFunc; simp [h4]) h5)
      · exact absurd (h5 ▸ h4) hk3
    · exfalso
      unfold It.var at hr
      rw [h4] at hr
      simp at hr

/-- What is needed, by way of other variables. -/
theorem all_tc (hK : KOk p) (hR : ROk p) (hk : k < p.length) {v : Nat} (hvk : own p v = k) {a : Nat} (h : Rch p fNoConst k a) : Rch p fFunc k a ∨ ∃ t, Tc (Nn p) v t ∧ t < cnt p ∧ Rch p fFunc (own p t) a := by
  induction h with
  | ref h1 => exact .inl (.ref h1)
  | @step a s h1 h2 h3 ih =>
    have ha := h1.lt hR hk
    by_cases h4 : (it p (own p a)).kind = 3
    · have hf : fFunc (it p (own p a)) = true := by unfold fFunc; simp [h4]
      rcases ih with ih | ⟨t, ht, ht1, ht2⟩
      · exact .inl (.step ih hf h3)
      · exact .inr ⟨t, ht, ht1, .step ht2 hf h3⟩
    · have hav : (it p (own p a)).var = true := by
        obtain ⟨k1, k2, _⟩ := hK _ (it_mem (own_spec ha).1)
        unfold fNoConst at h2
        unfold It.var
        simp only [Bool.or_eq_true, beq_iff_eq, bne_iff_ne, ne_eq] at h2 ⊢
        omega
      rcases ih with ih | ⟨t, ht, ht1, ht2⟩
      · exact .inr ⟨a, .one ⟨by rw [hvk]; exact ih, ha, hav⟩, ha, .ref h3⟩
      · exact .inr ⟨a, .more ht ⟨ht2, ha, hav⟩, ha, .ref h3⟩

theorem more_ok (hO : Ok p) (hk : k < p.length) (hkind : (it p k).kind = 0 ∨ (it p k).kind = 1) (hr : (needsAll p k)[r]? = some true) (hw : (it p k).refs.length ≤ 4194304) : Ok (moreQ p k r) ∧ ∀ a, Em p a → Em (moreQ p k r) a := by
  obtain ⟨hr1, hr2, hr3⟩ := needsAll_iff.1 hr
  have hS := more_same p k r
  have h1 : ∀ v s, Nn p v s → Nn (moreQ p k r) v s := fun v s => by
    unfold Nn
    rw [hS.cnt, hS.own, hS.own, hS.var]
    rintro ⟨a1, a2, a3⟩
    exact ⟨more_up hk a1, a2, a3⟩
  have h2 : ∀ v s, Vn p v → Nn (moreQ p k r) v s → Tc (Nn p) v s := fun v s _ => by
    unfold Nn
    rw [hS.cnt, hS.own, hS.own, hS.var]
    rintro ⟨a1, a2, a3⟩
    rcases more_down hk (by omega) hr3 a1 with h | ⟨h, rfl⟩
    · exact .one ⟨h, a2, a3⟩
    · rcases all_tc hO.kinds hO.refs hk h hr2 with h5 | ⟨t, h5, h6, h7⟩
      · exact .one ⟨by rw [h]; exact h5, hr1, hr3⟩
      · exact .more h5 ⟨h7, hr1, hr3⟩
  have hG : ∀ {L}, Gdy (Vn p) (Nn p) L → Gdy (Vn (moreQ p k r)) (Nn (moreQ p k r)) L := fun hL => (hL.more h1 h2).congr hS.vn (fun _ _ _ => Iff.rfl)
  have hF : ∀ {L}, FullG (Vn p) L → FullG (Vn (moreQ p k r)) L := fun hL v hv => hL v ((hS.vn v).2 hv)
  refine ⟨hO.same hS (fun j h2 => ?_) (fun j x hx => ?_) (fun j hj => ?_) (fun j x hx => ?_) ?_, fun a ha => ?_⟩
  · apply Classical.byContradiction
    intro hc
    obtain ⟨x, hx⟩ := List.exists_mem_of_ne_nil _ hc
    rcases (more_mem hk).1 hx with h3 | ⟨rfl, _⟩
    · by_cases hj : j < p.length
      · rw [(hO.kinds _ (it_mem hj)).2.2.2.2 h2] at h3; simp at h3
      · rw [it_out hj] at h3; simp at h3
    · omega
  · rcases (more_mem hk).1 hx with h3 | ⟨rfl, rfl⟩
    · by_cases hj : j < p.length
      · exact hO.refs _ (it_mem hj) x h3
      · rw [it_out hj] at h3; simp at h3
    · omega
  · unfold moreQ
    rw [it_set _ hk]
    split
    · simp; omega
    · exact hO.wt j hj
  · rcases (more_mem hk).1 hx with h3 | ⟨rfl, h3⟩
    · exact .ref h3
    · obtain rfl : x = r := by omega
      exact rch_mono (fun _ _ => rfl) hr2
  · obtain ⟨L, b1, b2⟩ := hO.acy
    exact ⟨L, hG b1, hF b2⟩
  · obtain ⟨L, b1, b2, rfl⟩ := ha
    exact ⟨L, hG b1, hF b2, (hS.emit L).symm⟩
end

/-- A copy of the declarations, of which one refers to one object more. -/
theorem more_copy {w : World} {ok ok' : Nat → Prop} {A A' : Option Addr} {c c' k r : Nat} {p : List It} (hp : Its w ok (.slice A p.length c) p) (hl : p.length ≤ 2097152) (hk : k < p.length)
    (hrefs : Ints w ok' (.slice A' (it p k).refs.length c') (it p k).refs) (hr : (it p k).refs.length ≤ 4194304) :
    ∃ g o5 c5 w5, Hid ((Builtin.append_ #[26, 26] 26 #[.slice none 0 0, .slice A p.length c]).run Tryz.prog w = .ok (.slice (some ⟨g, o5, none⟩) p.length c5) w5) ∧ Gr w w5 ∧
      Hid (∃ v6 w6, Hid ((Builtin.append_ #[29, 29] 29 #[.slice none 0 0, .slice A' (it p k).refs.length c']).run Tryz.prog w5 = .ok v6 w6) ∧
        Hid (∃ A7 c7 w7, Hid ((Builtin.append_ #[29, 29] 29 #[v6, .slice (some ⟨w6.heap.size, 0, none⟩) 1 1]).run Tryz.prog (w6.alloc (.cells #[.int .i64 (r : Int)] 3)) = .ok (.slice A7 ((it p k).refs.length + 1) c7) w7) ∧
          (∃ cv, w7.cell? ⟨g, o5 + k * 3 + 2, none⟩ = some cv) ∧ (∀ i, w7.frozen? ⟨g, i, none⟩ = false) ∧
          Hid (OwnIts (w7.setCell ⟨g, o5 + k * 3 + 2, none⟩ (.slice A7 ((it p k).refs.length + 1) c7)) w.heap.size 47 (.slice (some ⟨g, o5, none⟩) p.length c5) (moreQ p k r)) ∧ Gr w (w7.setCell ⟨g, o5 + k * 3 + 2, none⟩ (.slice A7 ((it p k).refs.length + 1) c7)))) := by
  obtain ⟨v5, w5, Hr5, ho5, hg5⟩ := copy_items hp hl 26
  have ho5' := ho5
  obtain ⟨vs1, hv1, hv2, hv3⟩ := ho5'
  obtain ⟨g, o5, c5, cur1, rfl, hgge, hgrow, -, -, -⟩ := hv2.at_ (by omega)
  obtain ⟨v6, w6, hr6, ho6, hf6, -, hb6⟩ := run_append (P := Tryz.prog) (ty := 29) (ok := fun b => w5.heap.size ≤ b) elem3 Tryz.underlying29 Tryz.underlying29 (Own.nil w5 (fun b => w5.heap.size ≤ b) 3 1) (hrefs.gr hg5) (by simp [intV, Value.oneCell']) (by simp only [maxLen]; omega) (by omega) (fun b hb => hb)
  have hg6 : Gr w5 w6 := hf6.mono (fun b _ hb => by simp [Value.ownBlock] at hb)
  simp only [Nat.zero_add, List.nil_append] at ho6
  obtain ⟨v7, w7, Hr7, ho7, hf7, hf7', -, -⟩ := app1 (P := Tryz.prog) (t := 29) (ty := 29) elem3 Tryz.underlying29 ho6 (.int .i64 (r : Int)) rfl hg6.size (by omega) (by omega)
  obtain ⟨A7, c7, rfl⟩ := ho7.val
  have hg7 : Gr w5 w7 := hg6.step hf7' (fun b hb => hb)
  obtain ⟨cv, -, hcv, hfz⟩ := (ho5.gr hg7).cellAt hk
  have hgl := heap_lt hgrow
  have hq := (ho5.gr hg7).setRefs hk (u := .slice A7 ((it p k).refs.length + 1) c7) (x := (it p k).refs ++ [(r : Int)]) (by
    have e : ((it p k).refs ++ [(r : Int)]).map intV = (it p k).refs.map intV ++ [.int .i64 (r : Int)] := by simp [intV]
    rw [← e] at ho7
    exact ho7.ints.mono (fun b _ hb e => by omega))
  exact ⟨g, o5, c5, w5, Hr5, hg5, Lib.hid ⟨v6, w6, Lib.hid hr6, Lib.hid ⟨A7, c7, w7, Hr7, ⟨cv, hcv⟩, hfz, Lib.hid hq, (hg5.trans hg7).step (fr_set _ _ _ _) (fun b hb => by omega)⟩⟩⟩

set_option maxHeartbeats 4000000 in
set_option maxRecDepth 100000 in
theorem fnMore_walk (w : World) (ok : Nat → Prop) (A : Option Addr) (c : Nat) (p : List It) (ki ri : Int) (hp : Its w ok (.slice A p.length c) p) (hw : wt p ≤ 1048576) :
    Calls Tryz.prog 8 #[.slice A p.length c, .int .i64 ki, .int .i64 ri] w (PTrue' w) := by
  have hpl := length_le_wt p
  go_enter Tryz.func8, Tryz.ntmps8
  go_wp2_with (go_at_call 16; refine (zz1_any w ok A c p hp (by omega)).mono ?_; rintro e w1 ⟨b1, rfl, hb1, hg1⟩; clear hb1; cases b1)
  · go_wp2
    go_ret
    exact ⟨rfl, hg1⟩
  · go_wp2_with (go_at_call 17; refine (read_any w1 ok A c p (hp.gr hg1) (by omega)).mono ?_; rintro e w2 ⟨v2, rfl, hp2, hg2⟩; replace hp2 := hp2.its; obtain ⟨A2, c2, rfl⟩ := hp2.val)
    by_cases hk0 : ki < 0
    · go_wp2_with (go_at_call 18; refine (valid_any w2 (fun _ => True) A2 c2 p hp2 (by omega)).mono ?_; rintro e w3 ⟨b3, rfl, hb3, hg3⟩; clear hb3; cases b3)
      all_goals (
        go_wp2
        go_ret
        exact ⟨rfl, (hg1.trans hg2).trans hg3⟩)
    · obtain ⟨k, rfl⟩ : ∃ k : Nat, ki = (k : Int) := ⟨ki.toNat, by omega⟩
      have d0 : decide ((k : Int) < 0) = false := by simp
      by_cases hkl : k < p.length
      · have hki : (k : Int) < (p.length : Int) := by omega
        obtain ⟨b, o, A', c', rfl, -, -, q0, q1, q2, hrefs⟩ := hp2.at_ hkl
        by_cases hkd : (it p k).kind = 0 ∨ (it p k).kind = 1
        · have hnn : ((it p k).kind != 0) = false ∨ ((it p k).kind != 0) = true ∧ ((it p k).kind != 1) = false := by
            rcases hkd with h | h <;> simp [h]
          have Hkd := Lib.hid hkd
          clear hkd
          rcases hnn with n0 | ⟨n0, n1⟩
          all_goals (
            go_wp2_with (go_at_call 18; refine (valid_any w2 (fun _ => True) _ c2 p hp2 (by omega)).mono ?_; rintro e w3 ⟨b3, rfl, hb3, hg3⟩; have Hb3 := Lib.hid hb3; clear hb3; replace q0 := hg3.cell q0; cases b3)
            · go_wp2
              go_ret
              exact ⟨rfl, (hg1.trans hg2).trans hg3⟩
            · have hO := ok_of_valid (Hb3.out.1 (by trivial)) (by omega)
              have hcnt := cnt_le hO.kinds
              have hlen := hO.len
              have hg123 := (hg1.trans hg2).trans hg3
              have hp3 := hp2.gr hg3
              have HN := Lib.hid (NeedsAll_any w3 (fun _ => True) (some ⟨b, o, none⟩) c2 p k hp3 hO.kinds hO.refs hO.len (by omega) hkl)
              by_cases hr0 : ri < 0
              · have dr : decide (ri < 0) = true := by simp [hr0]
                go_wp2_with (go_at_call 32; refine HN.out.mono ?_; rintro e w4 ⟨v4, rfl, ho4, hg4⟩; obtain ⟨A4, c4, rfl⟩ := ho4.val)
                go_ret
                exact ⟨rfl, hg123.trans hg4⟩
              · obtain ⟨r, rfl⟩ : ∃ r : Nat, ri = (r : Int) := ⟨ri.toNat, by omega⟩
                have dr : decide ((r : Int) < 0) = false := by simp
                by_cases hrl : r < cnt p
                · have hri : (r : Int) < (cnt p : Int) := by omega
                  obtain ⟨bb, hbb⟩ := get_lt (l := needsAll p k) (k := r) (by rw [needsAll_length]; omega)
                  have Hbb := Lib.hid hbb
                  clear hbb
                  cases bb
                  · go_wp2_with (go_at_call 32; refine HN.out.mono ?_; rintro e w4 ⟨v4, rfl, ho4, hg4⟩; obtain ⟨g5, o5, cap5, cur5, rfl, -, -, -, -, hc5⟩ := ho4.at_ (by omega); have cb := hc5 r (.bool false) (by rw [List.getElem?_map, Hbb.out]; rfl); clear hc5)
                    go_ret
                    exact ⟨rfl, hg123.trans hg4⟩
                  · have hwk := refs_le_wt hkl
                    obtain ⟨hO', he⟩ := more_ok hO hkl Hkd.out Hbb.out (by omega)
                    have HE := Lib.hid he
                    clear he
                    have hml : (moreQ p k r).length = p.length := (more_same p k r).len
                    have hcopy := Lib.hid fun w4 (hg : Gr w3 w4) => more_copy (r := r) (hp3.gr hg) hlen hkl ((hrefs.gr hg3).gr hg) (by omega)
                    go_wp2_with (first
                      | (go_at_call 25; refine HQ.out.mono ?_; rintro e w9 ⟨rfl, hg9⟩)
                      | (at_builtin; refine wpList_appended rfl _ _ _ _ rfl rfl rfl Hr7 ?_; have HQ : Hid _ := (by have hE := equal_any _ (fun _ => True) (fun _ => True) (some ⟨b, o, none⟩) (some ⟨g, og, none⟩) c2 c5 p (moreQ p k r) (hp3.gr (hg4.trans hg8)) (by rw [hml]; exact H8.out.its) hO hO' HE.out; rw [hml] at hE; exact Lib.hid hE); clear q2 Hr7)
                      | (at_builtin; refine wpList_appended rfl _ _ _ _ rfl rfl rfl Hr6 ?_; obtain ⟨A7, c7, w7, Hr7, ⟨cv, hcv⟩, hfz, H8, hg8⟩ := H7.out; clear Hr6)
                      | (at_builtin; refine wpList_appended rfl _ _ _ _ rfl rfl rfl Hr5 ?_; obtain ⟨v6, w6, Hr6, H7⟩ := H6.out; clear Hr5; replace q2 := hg5.cell q2)
                      | (go_at_call 32; refine HN.out.mono ?_; rintro e w4 ⟨v4, rfl, ho4, hg4⟩; obtain ⟨g5, o5, cap5, cur5, rfl, -, -, -, -, hc5⟩ := ho4.at_ (by omega); have cb := hc5 r (.bool true) (by rw [List.getElem?_map, Hbb.out]; rfl); clear hc5; obtain ⟨g, og, c5, w5, Hr5, hg5, H6⟩ := hcopy.out w4 hg4; replace q2 := (hg3.trans hg4).cell q2))
                    go_ret
                    exact ⟨rfl, (hg123.trans hg4).trans (hg8.trans hg9)⟩
                · have hri : ¬ (r : Int) < (cnt p : Int) := by omega
                  go_wp2_with (go_at_call 32; refine HN.out.mono ?_; rintro e w4 ⟨v4, rfl, ho4, hg4⟩; obtain ⟨A4, c4, rfl⟩ := ho4.val)
                  go_ret
                  exact ⟨rfl, hg123.trans hg4⟩)
        · have n0 : ((it p k).kind != 0) = true := by simp; omega
          have n1 : ((it p k).kind != 1) = true := by simp; omega
          clear hkd
          go_wp2_with (go_at_call 18; refine (valid_any w2 (fun _ => True) _ c2 p hp2 (by omega)).mono ?_; rintro e w3 ⟨b3, rfl, hb3, hg3⟩; clear hb3; replace q0 := hg3.cell q0; cases b3)
          all_goals (
            go_wp2
            go_ret
            exact ⟨rfl, (hg1.trans hg2).trans hg3⟩)
      · have hki : ¬ (k : Int) < (p.length : Int) := by omega
        go_wp2_with (go_at_call 18; refine (valid_any w2 (fun _ => True) A2 c2 p hp2 (by omega)).mono ?_; rintro e w3 ⟨b3, rfl, hb3, hg3⟩; clear hb3; cases b3)
        all_goals (
          go_wp2
          go_ret
          exact ⟨rfl, (hg1.trans hg2).trans hg3⟩)
end Go.Proofs.YtelfaljidgfphaaGreat
