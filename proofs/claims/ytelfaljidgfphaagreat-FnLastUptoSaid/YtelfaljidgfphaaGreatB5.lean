/-
  The walks of 'Needs' and 'NeedsAll': the variables on which a declaration depends.
-/
import Derived.Test.YtelfaljidgfphaaGreatB4
namespace Go.Proofs.YtelfaljidgfphaaGreat
open Go.RowKit

theorem set_mid {α : Type} {l m : List α} {k : Nat} (h : l.length = k) (x y : α) : (l ++ y :: m).set k x = l ++ x :: m := by
  subst h
  rw [List.set_append_right _ _ (Nat.le_refl _), Nat.sub_self, List.set_cons_zero]


def NeedsRel (w2 : World) (p : List It) (m : Nat) (vout : Value) (i : Value) (wr : World) : Prop :=
  ∃ k : Nat, k ≤ cnt p ∧ i = .int .i64 k ∧ Own wr (fun b => w2.heap.size ≤ b) 4 1 vout (cnt p) (((needs p m).take k ++ (reach p fFunc m).drop k).map Value.bool) ∧ Gr w2 wr

open Classical in
theorem needs_get (p : List It) (m k : Nat) (hk : k < cnt p) : ∃ b, (reach p fFunc m)[k]? = some b ∧ (needs p m)[k]? = some (b && (it p (own p k)).var) := by
  refine ⟨_, by unfold reach; rw [List.getElem?_map, List.getElem?_range hk]; rfl, ?_⟩
  unfold needs
  rw [List.getElem?_map, List.getElem?_range hk]
  rfl

set_option maxHeartbeats 1000000 in
set_option maxRecDepth 100000 in
theorem Needs_any (w : World) (ok : Nat → Prop) (A : Option Addr) (c : Nat) (p : List It) (m : Nat) (hp : Its w ok (.slice A p.length c) p) (hk : KOk p) (hr : ROk p)
    (hl : p.length ≤ 2097152) (hw : wt p ≤ 4194304) (hm : m < p.length) :
    Calls Tryz.prog 36 #[.slice A p.length c, .int .i64 m] w (PVal fun v w' => Own w' (fun b => w.heap.size ≤ b) 4 1 v (cnt p) ((needs p m).map Value.bool) ∧ Gr w w') := by
  have hcnt := cnt_le hk
  have hcnt : cnt p ≤ 209715200 := by omega
  go_enter Tryz.func36, Tryz.ntmps36
  go_wp2_with (first
    | (go_at_call 46; refine (owners_any w ok _ c p hp hk hl).mono ?_; rintro e w1 ⟨v1, rfl, ho1, hg1⟩; obtain ⟨Ao, co, rfl⟩ := ho1.val)
    | (go_at_call 49; refine (reached_any 52 fFunc tells_func w1 ok _ c p m (hp.gr hg1) hk hr hl hw hm).mono ?_; rintro e w2 ⟨v2, rfl, ho2, hg2⟩; obtain ⟨Av, cv, rfl⟩ := ho2.val))
  go_loopw [15] (NeedsRel w1 p m (.slice Av (cnt p) cv)) (fun i _ => cnt p - (intOf i).toNat)
  case atStart => exact ⟨0, by omega, rfl, by simpa using ho2, hg2⟩
  case round =>
    obtain ⟨k, hkc, rfl, hown, hgr⟩ := hrel
    by_cases hlt : k < cnt p
    · obtain ⟨hol, hos1, hos2⟩ := own_spec hlt
      obtain ⟨bo, oo, rfl, -, -, hof⟩ := Ints.at_ (k := k) (ho1.ints.gr hgr) (by simpa [ints, cnt] using hlt)
      have cof := hof (own p k) (by simp [ints, owners_getD hlt])
      obtain ⟨b9, o9, A9, c9, rfl, -, -, q0, q1, q2, -⟩ := (hp.gr (hg1.trans hgr)).at_ hol
      obtain ⟨g, og, cap, cur, he, hgB, hgheap, hcap, hcur, hcw⟩ := hown.at_ (by omega)
      simp only [Value.slice.injEq, true_and] at he
      obtain ⟨rfl, rfl⟩ := he
      obtain ⟨bb, hb1, hb2⟩ := needs_get p m k hlt
      have hl1 : ((needs p m).take k).length = k := by rw [List.length_take, needs_length]; omega
      have hget : (((needs p m).take k ++ (reach p fFunc m).drop k).map Value.bool)[k]? = some (.bool bb) := by
        rw [List.getElem?_map, List.getElem?_append_right (by omega), hl1, Nat.sub_self, List.getElem?_drop, Nat.add_zero, hb1]; rfl
      have hset : (((needs p m).take k ++ (reach p fFunc m).drop k).map Value.bool).set k (.bool (bb && (it p (own p k)).var)) = ((needs p m).take (k + 1) ++ (reach p fFunc m).drop (k + 1)).map Value.bool := by
        rw [take_snoc hb2, List.drop_eq_getElem_cons (by rw [reach_length]; exact hlt), List.map_append, List.map_cons, set_mid (by rw [List.length_map, hl1])]
        simp
      have cm : wr.cell? ⟨g, og + k, none⟩ = some (.bool bb) := hcw k _ hget
      have fm : wr.frozen? ⟨g, og + k, none⟩ = false := frozen_row hgheap _
      have Hset := Lib.hid hset
      clear hof hcw hgheap hb1 hb2 hl1 hget hset hcap hcur
      cases bb with
      | true =>
        go_wp2_with (go_at_call 47; refine (isVar_it p (own p k) A9 c9 _).mono ?_; rintro e w3 ⟨rfl, hg3⟩; have cm3 := hg3.cell cm; obtain ⟨g3, og3, cap3, cur3, he3, -, hgheap3, -, -, -⟩ := (hown.gr hg3).at_ (by omega); simp only [Value.slice.injEq, true_and, Option.some.injEq, Addr.mk.injEq, and_true] at he3; obtain ⟨⟨rfl, rfl⟩, rfl⟩ := he3; have fm3 : w3.frozen? ⟨g, og + k, none⟩ = false := frozen_row hgheap3 _; clear hgheap3)
        go_roundw
        case rel =>
          refine ⟨k + 1, by omega, by go_num, ?_, (hgr.trans hg3).step (fr_set w3 g (og + k) _) (fun b hb => by omega)⟩
          rw [← Hset.out, Bool.true_and]
          exact (hown.gr hg3).set rfl (by omega) _
        case measure => simp [intOf]; omega
      | false =>
        go_wp2
        go_roundw
        case rel =>
          refine ⟨k + 1, by omega, by go_num, ?_, hgr.step (fr_set wr g (og + k) _) (fun b hb => by omega)⟩
          rw [← Hset.out, Bool.false_and]
          exact hown.set rfl (by omega) _
        case measure => simp [intOf]; omega
    · have hk0 : k = cnt p := by omega
      subst hk0
      go_wp2
      go_ret
      refine ⟨_, rfl, ?_, hg1.trans hgr⟩
      rw [List.take_of_length_le (by rw [needs_length]; omega), List.drop_of_length_le (by rw [reach_length]; omega), List.append_nil] at hown
      exact hown.mono (fun b _ _ hb => by have := hg1.size; omega)

def NeedsAllRel (w2 : World) (p : List It) (m : Nat) (vout : Value) (i : Value) (wr : World) : Prop :=
  ∃ k : Nat, k ≤ cnt p ∧ i = .int .i64 k ∧ Own wr (fun b => w2.heap.size ≤ b) 4 1 vout (cnt p) (((needsAll p m).take k ++ (reach p fNoConst m).drop k).map Value.bool) ∧ Gr w2 wr

open Classical in
theorem needsAll_get (p : List It) (m k : Nat) (hk : k < cnt p) : ∃ b, (reach p fNoConst m)[k]? = some b ∧ (needsAll p m)[k]? = some (b && (it p (own p k)).var) := by
  refine ⟨_, by unfold reach; rw [List.getElem?_map, List.getElem?_range hk]; rfl, ?_⟩
  unfold needsAll
  rw [List.getElem?_map, List.getElem?_range hk]
  rfl

set_option maxHeartbeats 1000000 in
set_option maxRecDepth 100000 in
theorem NeedsAll_any (w : World) (ok : Nat → Prop) (A : Option Addr) (c : Nat) (p : List It) (m : Nat) (hp : Its w ok (.slice A p.length c) p) (hk : KOk p) (hr : ROk p)
    (hl : p.length ≤ 2097152) (hw : wt p ≤ 4194304) (hm : m < p.length) :
    Calls Tryz.prog 32 #[.slice A p.length c, .int .i64 m] w (PVal fun v w' => Own w' (fun b => w.heap.size ≤ b) 4 1 v (cnt p) ((needsAll p m).map Value.bool) ∧ Gr w w') := by
  have hcnt := cnt_le hk
  have hcnt : cnt p ≤ 209715200 := by omega
  go_enter Tryz.func32, Tryz.ntmps32
  go_wp2_with (first
    | (go_at_call 46; refine (owners_any w ok _ c p hp hk hl).mono ?_; rintro e w1 ⟨v1, rfl, ho1, hg1⟩; obtain ⟨Ao, co, rfl⟩ := ho1.val)
    | (go_at_call 49; refine (reached_any 50 fNoConst tells_noConst w1 ok _ c p m (hp.gr hg1) hk hr hl hw hm).mono ?_; rintro e w2 ⟨v2, rfl, ho2, hg2⟩; obtain ⟨Av, cv, rfl⟩ := ho2.val))
  go_loopw [15] (NeedsAllRel w1 p m (.slice Av (cnt p) cv)) (fun i _ => cnt p - (intOf i).toNat)
  case atStart => exact ⟨0, by omega, rfl, by simpa using ho2, hg2⟩
  case round =>
    obtain ⟨k, hkc, rfl, hown, hgr⟩ := hrel
    by_cases hlt : k < cnt p
    · obtain ⟨hol, hos1, hos2⟩ := own_spec hlt
      obtain ⟨bo, oo, rfl, -, -, hof⟩ := Ints.at_ (k := k) (ho1.ints.gr hgr) (by simpa [ints, cnt] using hlt)
      have cof := hof (own p k) (by simp [ints, owners_getD hlt])
      obtain ⟨b9, o9, A9, c9, rfl, -, -, q0, q1, q2, -⟩ := (hp.gr (hg1.trans hgr)).at_ hol
      obtain ⟨g, og, cap, cur, he, hgB, hgheap, hcap, hcur, hcw⟩ := hown.at_ (by omega)
      simp only [Value.slice.injEq, true_and] at he
      obtain ⟨rfl, rfl⟩ := he
      obtain ⟨bb, hb1, hb2⟩ := needsAll_get p m k hlt
      have hl1 : ((needsAll p m).take k).length = k := by rw [List.length_take, needsAll_length]; omega
      have hget : (((needsAll p m).take k ++ (reach p fNoConst m).drop k).map Value.bool)[k]? = some (.bool bb) := by
        rw [List.getElem?_map, List.getElem?_append_right (by omega), hl1, Nat.sub_self, List.getElem?_drop, Nat.add_zero, hb1]; rfl
      have hset : (((needsAll p m).take k ++ (reach p fNoConst m).drop k).map Value.bool).set k (.bool (bb && (it p (own p k)).var)) = ((needsAll p m).take (k + 1) ++ (reach p fNoConst m).drop (k + 1)).map Value.bool := by
        rw [take_snoc hb2, List.drop_eq_getElem_cons (by rw [reach_length]; exact hlt), List.map_append, List.map_cons, set_mid (by rw [List.length_map, hl1])]
        simp
      have cm : wr.cell? ⟨g, og + k, none⟩ = some (.bool bb) := hcw k _ hget
      have fm : wr.frozen? ⟨g, og + k, none⟩ = false := frozen_row hgheap _
      have Hset := Lib.hid hset
      clear hof hcw hgheap hb1 hb2 hl1 hget hset hcap hcur
      cases bb with
      | true =>
        go_wp2_with (go_at_call 47; refine (isVar_it p (own p k) A9 c9 _).mono ?_; rintro e w3 ⟨rfl, hg3⟩; have cm3 := hg3.cell cm; obtain ⟨g3, og3, cap3, cur3, he3, -, hgheap3, -, -, -⟩ := (hown.gr hg3).at_ (by omega); simp only [Value.slice.injEq, true_and, Option.some.injEq, Addr.mk.injEq, and_true] at he3; obtain ⟨⟨rfl, rfl⟩, rfl⟩ := he3; have fm3 : w3.frozen? ⟨g, og + k, none⟩ = false := frozen_row hgheap3 _; clear hgheap3)
        go_roundw
        case rel =>
          refine ⟨k + 1, by omega, by go_num, ?_, (hgr.trans hg3).step (fr_set w3 g (og + k) _) (fun b hb => by omega)⟩
          rw [← Hset.out, Bool.true_and]
          exact (hown.gr hg3).set rfl (by omega) _
        case measure => simp [intOf]; omega
      | false =>
        go_wp2
        go_roundw
        case rel =>
          refine ⟨k + 1, by omega, by go_num, ?_, hgr.step (fr_set wr g (og + k) _) (fun b hb => by omega)⟩
          rw [← Hset.out, Bool.false_and]
          exact hown.set rfl (by omega) _
        case measure => simp [intOf]; omega
    · have hk0 : k = cnt p := by omega
      subst hk0
      go_wp2
      go_ret
      refine ⟨_, rfl, ?_, hg1.trans hgr⟩
      rw [List.take_of_length_le (by rw [needsAll_length]; omega), List.drop_of_length_le (by rw [reach_length]; omega), List.append_nil] at hown
      exact hown.mono (fun b _ _ hb => by have := hg1.size; omega)

end Go.Proofs.YtelfaljidgfphaaGreat
