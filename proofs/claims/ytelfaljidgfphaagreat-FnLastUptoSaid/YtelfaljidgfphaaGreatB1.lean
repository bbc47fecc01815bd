/-
  Walks of small functions of packages spec and laws: objects, isVar, owners, Objects, list, ints, lists.
-/
import Derived.Test.YtelfaljidgfphaaGreatA3
namespace Go.Proofs.YtelfaljidgfphaaGreat
open Go.RowKit

/-- 'x.objects()' -/
theorem objects_any (k m : Int) (A : Option Addr) (n c : Nat) (w : World) :
    Calls Tryz.prog 43 #[.agg #[.int .i64 k, .int .i64 m, .slice A n c]] w fun e w' => e = .returned (.int .i64 (if k = 1 then m else 1)) ∧ Gr w w' := by
  by_cases h : k = 1
  · have H : Hid ((if k = 1 then m else 1) = m) := by show _ = m; rw [if_pos h]
    rw [H.out]
    have h' : (k == 1) = true := by simpa using h
    clear h H
    go_enter Tryz.func43, Tryz.ntmps43
    go_wp2
    go_ret
    exact ⟨rfl, (Gr.refl w).alloc _⟩
  · have H : Hid ((if k = 1 then m else 1) = 1) := by show _ = (1 : Int); rw [if_neg h]
    rw [H.out]
    have h' : (k == 1) = false := by simpa using h
    clear h H
    go_enter Tryz.func43, Tryz.ntmps43
    go_wp2
    go_ret
    exact ⟨rfl, (Gr.refl w).alloc _⟩

theorem it_n_int {p : List It} (hk : KOk p) {k : Nat} (h : k < p.length) : (if (it p k).kind = 1 then (it p k).many else 1) = ((it p k).n : Int) := by
  obtain ⟨_, _, h1, _⟩ := hk _ (it_mem h)
  unfold It.n
  split
  · rename_i e; have := h1 e; omega
  · rfl

theorem objects_it {p : List It} (hk : KOk p) {k : Nat} (h : k < p.length) (A : Option Addr) (c : Nat) (w : World) :
    Calls Tryz.prog 43 #[.agg #[.int .i64 (it p k).kind, .int .i64 (it p k).many, .slice A (it p k).refs.length c]] w fun e w' => e = .returned (.int .i64 ((it p k).n : Int)) ∧ Gr w w' := by
  have := objects_any (it p k).kind (it p k).many A (it p k).refs.length c w
  rw [it_n_int hk h] at this
  exact this

/-- 'x.isVar()' -/
theorem isVar_any (x : It) (A : Option Addr) (n c : Nat) (w : World) :
    Calls Tryz.prog 47 #[.agg #[.int .i64 x.kind, .int .i64 x.many, .slice A n c]] w fun e w' => e = .returned (.bool x.var) ∧ Gr w w' := by
  have e : Hid (x.var = (x.kind == 0 || x.kind == 1 || x.kind == 2)) := rfl
  rw [e.out]
  by_cases h0 : x.kind = 0
  · have h0' : (x.kind == 0) = true := by simpa using h0
    clear h0 e
    go_enter Tryz.func47, Tryz.ntmps47
    go_wp2
    go_ret
    exact ⟨by simp [h0'], (Gr.refl w).alloc _⟩
  · have h0' : (x.kind == 0) = false := by simpa using h0
    by_cases h1 : x.kind = 1
    · have h1' : (x.kind == 1) = true := by simpa using h1
      clear h0 h1 e
      go_enter Tryz.func47, Tryz.ntmps47
      go_wp2
      go_ret
      exact ⟨by simp [h0', h1'], (Gr.refl w).alloc _⟩
    · have h1' : (x.kind == 1) = false := by simpa using h1
      clear h0 h1 e
      go_enter Tryz.func47, Tryz.ntmps47
      go_wp2
      go_ret
      exact ⟨by simp [h0', h1'], (Gr.refl w).alloc _⟩

theorem isVar_it (p : List It) (k : Nat) (A : Option Addr) (c : Nat) (w : World) :
    Calls Tryz.prog 47 #[.agg #[.int .i64 (it p k).kind, .int .i64 (it p k).many, .slice A (it p k).refs.length c]] w fun e w' => e = .returned (.bool (it p k).var) ∧ Gr w w' :=
  isVar_any (it p k) A _ c w

theorem intsV_snoc (l : List Nat) (k : Nat) : (ints (l ++ [k])).map intV = (ints l).map intV ++ [.int .i64 (k : Int)] := by simp [ints, intV]
theorem intsV_length (l : List Nat) : ((ints l).map intV).length = l.length := by simp [ints]

def OwnersRel (w : World) (p : List It) (v i : Value) (wr : World) : Prop :=
  ∃ k : Nat, k ≤ p.length ∧ i = .int .i64 k ∧ Own wr (fun b => w.heap.size ≤ b) 3 1 v (start p k) ((ints (owners (p.take k))).map intV) ∧ Gr w wr
def OwnersRel2 (w : World) (p : List It) (k : Nat) (v i : Value) (wr : World) : Prop :=
  ∃ j : Nat, j ≤ (it p k).n ∧ i = .int .i64 j ∧ Own wr (fun b => w.heap.size ≤ b) 3 1 v (start p k + j) ((ints (owners (p.take k) ++ List.replicate j k)).map intV) ∧ Gr w wr

set_option maxHeartbeats 400000 in
/-- 'p.owners()' -/
theorem owners_any (w : World) (ok : Nat → Prop) (A : Option Addr) (c : Nat) (p : List It) (hp : Its w ok (.slice A p.length c) p) (hk : KOk p) (hl : p.length ≤ 2097152) :
    Calls Tryz.prog 46 #[.slice A p.length c] w (PVal fun v w' => Own w' (fun b => w.heap.size ≤ b) 3 1 v (cnt p) ((ints (owners p)).map intV) ∧ Gr w w') := by
  have Hcnt := cnt_le hk
  have hcnt : cnt p ≤ 209715200 := by omega
  clear Hcnt
  go_enter Tryz.func46, Tryz.ntmps46
  go_wp2
  go_loopw [3, 8] (OwnersRel w p) (fun _ i _ => p.length - (intOf i).toNat)
  case atStart => exact ⟨0, by omega, rfl, by rw [start_zero]; exact Own.nil _ _ _ _, Gr.refl w⟩
  case round =>
    obtain ⟨k, hkp, rfl, hown, hgr⟩ := hrel
    by_cases hlt : k < p.length
    · obtain ⟨b, o, A', c', rfl, -, -, c0, c1, c2, -⟩ := (hp.gr hgr).at_ hlt
      have hn : (it p k).n ≤ 100 := (n_pos hk (it_mem hlt)).2
      have hst : start p k ≤ 209715200 := by have := start_mono (p := p) (j := k) (k := p.length) (by omega) (Nat.le_refl _); rw [start_length] at this; omega
      go_wp2_with (go_at_call 43; refine (objects_it hk hlt _ _ _).mono ?_; rintro e w1 ⟨rfl, hg1⟩)
      go_loopw [3, 15] (OwnersRel2 w p k) (fun _ i _ => (it p k).n - (intOf i).toNat)
      case atStart => exact ⟨0, by omega, rfl, by simpa using (hown.alloc _).gr hg1, (hgr.alloc _).trans hg1⟩
      case round =>
        rename World => w3
        obtain ⟨j, hj, rfl, hown3, hgr3⟩ := hrel
        by_cases hjl : j < (it p k).n
        · obtain ⟨v4, w4, Hr, hown4, -, hfr4, -, -⟩ := app1 (P := Tryz.prog) (t := 29) (ty := 29) elem3 Tryz.underlying29 hown3 (.int .i64 (k : Int)) rfl hgr3.size (by omega) (by omega)
          go_wp2_with (at_builtin; refine wpList_appended rfl _ _ _ _ rfl rfl rfl Hr ?_)
          go_roundw
          case rel =>
            refine ⟨j + 1, by omega, by go_num, ?_, hgr3.own hfr4 (Nat.le_refl _)⟩
            rw [List.replicate_succ', ← List.append_assoc, intsV_snoc]
            exact hown4
          case measure => simp [intOf]; omega
        · have hj0 : j = (it p k).n := by omega
          subst hj0
          go_wp2
          go_roundw
          case rel =>
            refine ⟨k + 1, by omega, by go_num, ?_, hgr3⟩
            rw [start_succ (it_get hlt), owners_take_succ (it_get hlt)]
            exact hown3
          case measure => simp [intOf]; omega
    · have hk0 : k = p.length := by omega
      subst hk0
      go_wp2
      go_ret
      refine ⟨_, rfl, ?_, hgr⟩
      rw [start_length, List.take_length] at hown
      exact hown

def ObjsRel (w : World) (p : List It) (m : Nat) (a i : Value) (wr : World) : Prop :=
  ∃ k : Nat, k ≤ m ∧ i = .int .i64 k ∧ a = .int .i64 (start p k : Nat) ∧ Gr w wr
def ObjsRel2 (w : World) (p : List It) (m : Nat) (v i : Value) (wr : World) : Prop :=
  ∃ j : Nat, j ≤ (it p m).n ∧ i = .int .i64 j ∧ Own wr (fun b => w.heap.size ≤ b) 3 1 v j ((ints (List.range' (start p m) j)).map intV) ∧ Gr w wr

set_option maxHeartbeats 400000 in
/-- 'p.Objects(k)' -/
theorem Objects_any (w : World) (ok : Nat → Prop) (A : Option Addr) (c : Nat) (p : List It) (m : Nat) (hp : Its w ok (.slice A p.length c) p) (hpc : p.length ≤ c) (hk : KOk p) (hl : p.length ≤ 2097152) (hm : m < p.length) :
    Calls Tryz.prog 31 #[.slice A p.length c, .int .i64 m] w (PVal fun v w' => Own w' (fun b => w.heap.size ≤ b) 3 1 v (it p m).n ((ints (objs p m)).map intV) ∧ Gr w w') := by
  have Hcnt := cnt_le hk
  have hcnt : cnt p ≤ 209715200 := by omega
  have hst : ∀ k, k ≤ p.length → start p k ≤ 209715200 := fun k hk => by have := start_mono (p := p) (j := k) (k := p.length) (by omega) (Nat.le_refl _); rw [start_length] at this; omega
  have Hst := Lib.hid hst
  clear Hcnt hst
  obtain ⟨b, o, A0, c0, rfl, -⟩ := hp.at_ hm
  have hmc : m ≤ c := by omega
  go_enter Tryz.func31, Tryz.ntmps31
  go_wp2
  go_loopw [5, 14] (ObjsRel w p m) (fun _ i _ => m - (intOf i).toNat)
  case atStart => exact ⟨0, by omega, rfl, by rw [start_zero]; rfl, Gr.refl w⟩
  case round =>
    obtain ⟨k, hkp, rfl, rfl, hgr⟩ := hrel
    by_cases hlt : k < m
    · have hlt' : k < p.length := by omega
      obtain ⟨b', o', A', c', he, -, -, c0, c1, c2, -⟩ := (hp.gr hgr).at_ hlt'
      simp only [Option.some.injEq, Addr.mk.injEq, and_true] at he
      obtain ⟨rfl, rfl⟩ := he
      have hn : (it p k).n ≤ 100 := (n_pos hk (it_mem hlt')).2
      have hs := Hst.out k (by omega)
      go_wp2_with (go_at_call 43; refine (objects_it hk hlt' _ _ _).mono ?_; rintro e w1 ⟨rfl, hg1⟩)
      go_roundw
      case rel =>
        refine ⟨k + 1, by omega, by go_num, ?_, (hgr.alloc _).trans hg1⟩
        rw [start_succ (it_get hlt')]
        go_num
      case measure => simp [intOf]; omega
    · have hk0 : k = m := by omega
      subst hk0
      obtain ⟨b', o', A', c', he, -, -, c0, c1, c2, -⟩ := (hp.gr hgr).at_ hm
      simp only [Option.some.injEq, Addr.mk.injEq, and_true] at he
      obtain ⟨rfl, rfl⟩ := he
      have hn : (it p k).n ≤ 100 := (n_pos hk (it_mem hm)).2
      have hs := Hst.out k (by omega)
      go_wp2_with (go_at_call 43; refine (objects_it hk hm _ _ _).mono ?_; rintro e w1 ⟨rfl, hg1⟩)
      go_loopw [8, 28] (ObjsRel2 w p k) (fun _ i _ => (it p k).n - (intOf i).toNat)
      case atStart => exact ⟨0, by omega, rfl, by simpa [ints] using Own.nil _ _ _ _, hgr.trans hg1⟩
      case round =>
        rename World => w3
        obtain ⟨j, hj, rfl, hown3, hgr3⟩ := hrel
        by_cases hjl : j < (it p k).n
        · obtain ⟨v4, w4, Hr, hown4, -, hfr4, -, -⟩ := app1 (P := Tryz.prog) (t := 29) (ty := 29) elem3 Tryz.underlying29 hown3 (.int .i64 ((start p k : Int) + (j : Int))) rfl hgr3.size (by omega) (by omega)
          go_wp2_with (at_builtin; refine wpList_appended rfl _ _ _ _ rfl rfl rfl Hr ?_)
          go_roundw
          case rel =>
            refine ⟨j + 1, by omega, by go_num, ?_, hgr3.own hfr4 (Nat.le_refl _)⟩
            have e : List.range' (start p k) (j + 1) = List.range' (start p k) j ++ [start p k + j] := by rw [List.range'_concat]; simp
            rw [e, intsV_snoc, Int.natCast_add]
            exact hown4
          case measure => simp [intOf]; omega
        · have hj0 : j = (it p k).n := by omega
          subst hj0
          go_wp2
          go_ret
          exact ⟨_, rfl, hown3, hgr3⟩
end Go.Proofs.YtelfaljidgfphaaGreat
