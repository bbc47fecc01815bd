/-
  Walks of small functions of packages spec and laws: PlainFirst, Lone, zzFits1, read, given.
-/
import Derived.Test.YtelfaljidgfphaaGreatB2
namespace Go.Proofs.YtelfaljidgfphaaGreat
open Go.RowKit

/-- A call tells a Bool that is true just if p holds. -/
def PBool (w : World) (p : Prop) (e : Ending) (w' : World) : Prop := ∃ b, e = .returned (.bool b) ∧ (b = true ↔ p) ∧ Gr w w'

def PFirstRel (w : World) (p : List It) (v i : Value) (wr : World) : Prop :=
  ∃ k : Nat, k ≤ p.length ∧ i = .int .i64 k ∧ ∃ b, v = .bool b ∧ (b = true ↔ ∃ j, j < k ∧ (it p j).ini = true) ∧ (∀ k', k' < k → (it p k').kind = 2 → ∀ j, j < k' → (it p j).ini = false) ∧ Gr w wr

theorem kind_cases (x : It) : ((x.kind == 2) = true ∧ (x.kind == 0) = false ∧ (x.kind == 1) = false ∧ x.ini = false) ∨ ((x.kind == 2) = false ∧ (x.kind == 0) = true ∧ x.ini = true) ∨
    ((x.kind == 2) = false ∧ (x.kind == 0) = false ∧ (x.kind == 1) = true ∧ x.ini = true) ∨ ((x.kind == 2) = false ∧ (x.kind == 0) = false ∧ (x.kind == 1) = false ∧ x.ini = false) := by
  unfold It.ini
  by_cases h2 : x.kind = 2
  · simp [h2]
  · by_cases h0 : x.kind = 0
    · simp [h0]
    · by_cases h1 : x.kind = 1
      · simp [h1]
      · simp [h0, h1, h2]

set_option maxHeartbeats 800000 in
/-- 'p.PlainFirst()' -/
theorem PlainFirst_any (w : World) (ok : Nat → Prop) (A : Option Addr) (c : Nat) (p : List It) (hp : Its w ok (.slice A p.length c) p) (hl : p.length ≤ 2097152) :
    Calls Tryz.prog 34 #[.slice A p.length c] w (PBool w (PFirst p)) := by
  go_enter Tryz.func34, Tryz.ntmps34
  go_wp2
  go_loopw [3, 8] (PFirstRel w p) (fun _ i _ => p.length - (intOf i).toNat)
  case atStart => exact ⟨0, by omega, rfl, false, rfl, by simp, by omega, Gr.refl w⟩
  case round =>
    obtain ⟨k, hkp, rfl, bo, rfl, hbo, hall, hgr⟩ := hrel
    by_cases hlt : k < p.length
    · obtain ⟨b, o, A', c', rfl, -, -, c0, c1, c2, -⟩ := (hp.gr hgr).at_ hlt
      have Hall := Lib.hid hall
      have Hbo := Lib.hid hbo
      clear hall hbo
      have next : (it p k).kind ≠ 2 → ∀ k', k' < k + 1 → (it p k').kind = 2 → ∀ j, j < k' → (it p j).ini = false := by
        intro h2 k' hk' h3
        by_cases e : k' = k
        · subst e; exact absurd h3 h2
        · exact Hall.out k' (by omega) h3
      have Next := Lib.hid next
      clear next
      have stays : (it p k).ini = false → ∀ b : Bool, (b = true ↔ ∃ j, j < k ∧ (it p j).ini = true) → (b = true ↔ ∃ j, j < k + 1 ∧ (it p j).ini = true) := by
        intro hi b hb
        rw [hb]
        exact ⟨fun ⟨j, h1, h2⟩ => ⟨j, by omega, h2⟩, fun ⟨j, h1, h2⟩ => ⟨j, by
          by_cases e : j = k
          · subst e; rw [hi] at h2; cases h2
          · omega, h2⟩⟩
      have Stays := Lib.hid stays
      clear stays
      rcases kind_cases (it p k) with ⟨h2, h0, h1, hi⟩ | ⟨h2, h0, hi⟩ | ⟨h2, h0, h1, hi⟩ | ⟨h2, h0, h1, hi⟩
      · have Hi := Lib.hid hi
        have H2 : Hid ((it p k).kind = 2) := by show _ = _; simpa using h2
        clear hi
        cases bo with
        | true =>
          go_wp2
          go_ret
          refine ⟨false, rfl, ?_, hgr.alloc _⟩
          constructor
          · intro h; cases h
          · intro h
            obtain ⟨j, hj1, hj2⟩ := Hbo.out.1 (by trivial)
            have := h k hlt H2.out j hj1
            rw [hj2] at this; cases this
        | false =>
          go_wp2
          go_roundw
          case rel =>
            refine ⟨k + 1, by omega, by go_num, false, rfl, Stays.out Hi.out _ Hbo.out, ?_, hgr.alloc _⟩
            intro k' hk' h3 j hj
            by_cases e : k' = k
            · subst e
              cases hji : (it p j).ini with
              | false => rfl
              | true => exact absurd (Hbo.out.2 ⟨j, hj, hji⟩) (by simp)
            · exact Hall.out k' (by omega) h3 j hj
          case measure => simp [intOf]; omega
      · have Hi := Lib.hid hi
        have H2 : Hid ((it p k).kind ≠ 2) := by show _ ≠ _; simpa using h2
        clear hi
        cases bo <;>
          (go_wp2
           go_roundw
           case rel => exact ⟨k + 1, by omega, by go_num, true, rfl, ⟨fun _ => ⟨k, by omega, Hi.out⟩, fun _ => rfl⟩, Next.out H2.out, hgr.alloc _⟩
           case measure => simp [intOf]; omega)
      · have Hi := Lib.hid hi
        have H2 : Hid ((it p k).kind ≠ 2) := by show _ ≠ _; simpa using h2
        clear hi
        cases bo <;>
          (go_wp2
           go_roundw
           case rel => exact ⟨k + 1, by omega, by go_num, true, rfl, ⟨fun _ => ⟨k, by omega, Hi.out⟩, fun _ => rfl⟩, Next.out H2.out, hgr.alloc _⟩
           case measure => simp [intOf]; omega)
      · have Hi := Lib.hid hi
        have H2 : Hid ((it p k).kind ≠ 2) := by show _ ≠ _; simpa using h2
        clear hi
        cases bo with
        | true =>
          go_wp2
          go_roundw
          case rel => exact ⟨k + 1, by omega, by go_num, true, rfl, Stays.out Hi.out _ Hbo.out, Next.out H2.out, hgr.alloc _⟩
          case measure => simp [intOf]; omega
        | false =>
          go_wp2
          go_roundw
          case rel => exact ⟨k + 1, by omega, by go_num, false, rfl, Stays.out Hi.out _ Hbo.out, Next.out H2.out, hgr.alloc _⟩
          case measure => simp [intOf]; omega
    · have hk0 : k = p.length := by omega
      subst hk0
      go_wp2
      go_ret
      exact ⟨true, rfl, ⟨fun _ => hall, fun _ => rfl⟩, hgr⟩

/-- All lists hold no more than a bound. -/
def ZFits (p : List It) : Prop := p.length ≤ 2147483647 ∧ ∀ k, k < p.length → (it p k).refs.length ≤ 2147483647

theorem zz2_any (k m : Int) (A : Option Addr) (n c : Nat) (w : World) :
    Calls Tryz.prog 41 #[.agg #[.int .i64 k, .int .i64 m, .slice A n c]] w (PBool w (n ≤ 2147483647)) := by
  by_cases h : n ≤ 2147483647
  · have h' : ¬ (2147483647 < (n : Int)) := by omega
    go_enter Tryz.func41, Tryz.ntmps41
    go_wp2
    go_ret
    exact ⟨true, rfl, by simp, (Gr.refl w).alloc _⟩
  · have h' : 2147483647 < (n : Int) := by omega
    go_enter Tryz.func41, Tryz.ntmps41
    go_wp2
    go_ret
    exact ⟨false, rfl, by simp [h], (Gr.refl w).alloc _⟩

def ZRel (w : World) (p : List It) (i : Value) (wr : World) : Prop :=
  ∃ k : Nat, k ≤ p.length ∧ i = .int .i64 k ∧ (∀ j, j < k → (it p j).refs.length ≤ 2147483647) ∧ Gr w wr

set_option maxHeartbeats 800000 in
/-- 'zzFits1(l)' -/
theorem zz1_any (w : World) (ok : Nat → Prop) (A : Option Addr) (c : Nat) (p : List It) (hp : Its w ok (.slice A p.length c) p) (hl : p.length ≤ 9223372036854775807) :
    Calls Tryz.prog 16 #[.slice A p.length c] w (PBool w (ZFits p)) := by
  by_cases hlen : p.length ≤ 2147483647
  · have h' : ¬ (2147483647 < (p.length : Int)) := by omega
    go_enter Tryz.func16, Tryz.ntmps16
    go_wp2
    go_loopw [10] (ZRel w p) (fun i _ => p.length - (intOf i).toNat)
    case atStart => exact ⟨0, by omega, rfl, by omega, Gr.refl w⟩
    case round =>
      obtain ⟨k, hkp, rfl, hall, hgr⟩ := hrel
      by_cases hlt : k < p.length
      · obtain ⟨b, o, A', c', rfl, -, -, c0, c1, c2, -⟩ := (hp.gr hgr).at_ hlt
        have Hall := Lib.hid hall
        clear hall
        go_wp2_with (go_at_call 41; refine (zz2_any _ _ A' (it p k).refs.length c' _).mono ?_; rintro e w1 ⟨bb, rfl, hbb, hg1⟩; have Hbb := Lib.hid hbb; clear hbb; cases bb)
        · go_ret
          refine ⟨false, rfl, ?_, (hgr.alloc _).trans hg1⟩
          constructor
          · intro h; cases h
          · intro h; exact absurd (Hbb.out.2 (h.2 k hlt)) (by simp)
        · go_roundw
          case rel =>
            refine ⟨k + 1, by omega, by go_num, ?_, (hgr.alloc _).trans hg1⟩
            intro j hj
            by_cases e : j = k
            · subst e; exact Hbb.out.1 (by trivial)
            · exact Hall.out j (by omega)
          case measure => simp [intOf]; omega
      · have hk0 : k = p.length := by omega
        subst hk0
        go_wp2
        go_ret
        exact ⟨true, rfl, ⟨fun _ => ⟨hlen, hall⟩, fun _ => rfl⟩, hgr⟩
  · have h' : 2147483647 < (p.length : Int) := by omega
    go_enter Tryz.func16, Tryz.ntmps16
    go_wp2
    go_ret
    exact ⟨false, rfl, ⟨fun h => (by cases h), fun h => absurd h.1 hlen⟩, Gr.refl w⟩

def CopyRel (w : World) (e : Nat) (p : List It) (v i : Value) (wr : World) : Prop :=
  ∃ k : Nat, k ≤ p.length ∧ i = .int .i64 k ∧ OwnIts wr w.heap.size e v (p.take k) ∧ Gr w wr

set_option maxHeartbeats 800000 in
/-- 'read(l)' -/
theorem read_any (w : World) (ok : Nat → Prop) (A : Option Addr) (c : Nat) (p : List It) (hp : Its w ok (.slice A p.length c) p) (hl : p.length ≤ 4294967296) :
    Calls Tryz.prog 17 #[.slice A p.length c] w (PVal fun v w' => OwnIts w' w.heap.size 47 v p ∧ Gr w w') := by
  go_enter Tryz.func17, Tryz.ntmps17
  go_wp2
  go_loopw [3, 8] (CopyRel w 47 p) (fun _ i _ => p.length - (intOf i).toNat)
  case atStart => exact ⟨0, by omega, rfl, OwnIts.nil _ _ _, Gr.refl w⟩
  case round =>
    obtain ⟨k, hkp, rfl, hown, hgr⟩ := hrel
    by_cases hlt : k < p.length
    · obtain ⟨b, o, A', c', rfl, -, -, c0, c1, c2, hi⟩ := hp.at_ hlt
      have c0' := hgr.cell c0
      have c1' := hgr.cell c1
      have c2' := hgr.cell c2
      have hi' := (hi.away (w := wr) (v := u3) hgr hown.blk).gr ((Gr.refl wr).alloc (.cells #[.int .i64 (it p k).kind, .int .i64 (it p k).many, .slice A' (it p k).refs.length c'] 55))
      obtain ⟨v4, w4, Hr, hown4, hfr4, -⟩ := (hown.gr ((Gr.refl wr).alloc (.cells #[.int .i64 (it p k).kind, .int .i64 (it p k).many, .slice A' (it p k).refs.length c'] 55))).push (x := it p k) (t := 26) (ty := 26) hi' elem47 (by omega) Tryz.underlying26 (by have := hgr.size; simp; omega) (by simp; omega)
      rw [World.size_alloc] at Hr
      clear c0 c1 c2 hi hi'
      go_wp2_with (at_builtin; refine wpList_appended rfl _ _ _ _ rfl rfl rfl Hr ?_)
      go_roundw
      case rel =>
        refine ⟨k + 1, by omega, by go_num, ?_, (hgr.alloc _).own hfr4 (Nat.le_refl _)⟩
        rw [take_snoc (it_get hlt)]
        exact hown4
      case measure => simp [intOf]; omega
    · have hk0 : k = p.length := by omega
      subst hk0
      go_wp2
      go_ret
      rw [List.take_length] at hown
      exact ⟨_, rfl, hown, hgr⟩

set_option maxHeartbeats 800000 in
/-- 'given(p)' -/
theorem given_any (w : World) (ok : Nat → Prop) (A : Option Addr) (c : Nat) (p : List It) (hp : Its w ok (.slice A p.length c) p) (hl : p.length ≤ 4294967296) :
    Calls Tryz.prog 45 #[.slice A p.length c] w (PVal fun v w' => OwnIts w' w.heap.size 55 v p ∧ Gr w w') := by
  go_enter Tryz.func45, Tryz.ntmps45
  go_wp2
  go_loopw [3, 8] (CopyRel w 55 p) (fun _ i _ => p.length - (intOf i).toNat)
  case atStart => exact ⟨0, by omega, rfl, OwnIts.nil _ _ _, Gr.refl w⟩
  case round =>
    obtain ⟨k, hkp, rfl, hown, hgr⟩ := hrel
    by_cases hlt : k < p.length
    · obtain ⟨b, o, A', c', rfl, -, -, c0, c1, c2, hi⟩ := hp.at_ hlt
      have c0' := hgr.cell c0
      have c1' := hgr.cell c1
      have c2' := hgr.cell c2
      have hi' := (hi.away (w := wr) (v := u3) hgr hown.blk).gr ((Gr.refl wr).alloc (.cells #[.int .i64 (it p k).kind, .int .i64 (it p k).many, .slice A' (it p k).refs.length c'] 47))
      obtain ⟨v4, w4, Hr, hown4, hfr4, -⟩ := (hown.gr ((Gr.refl wr).alloc (.cells #[.int .i64 (it p k).kind, .int .i64 (it p k).many, .slice A' (it p k).refs.length c'] 47))).push (x := it p k) (t := 22) (ty := 22) hi' elem55 (by omega) Tryz.underlying22 (by have := hgr.size; simp; omega) (by simp; omega)
      rw [World.size_alloc] at Hr
      clear c0 c1 c2 hi hi'
      go_wp2_with (at_builtin; refine wpList_appended rfl _ _ _ _ rfl rfl rfl Hr ?_)
      go_roundw
      case rel =>
        refine ⟨k + 1, by omega, by go_num, ?_, (hgr.alloc _).own hfr4 (Nat.le_refl _)⟩
        rw [take_snoc (it_get hlt)]
        exact hown4
      case measure => simp [intOf]; omega
    · have hk0 : k = p.length := by omega
      subst hk0
      go_wp2
      go_ret
      rw [List.take_length] at hown
      exact ⟨_, rfl, hown, hgr⟩
end Go.Proofs.YtelfaljidgfphaaGreat
