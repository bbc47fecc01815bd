/-
  Walks of small functions of packages spec and laws: ints, lists, list, Initializers, PlainFirst, Lone, zzFits1, read, given.
-/
import Derived.Test.YtelfaljidgfphaaGreatA4
namespace Go.Proofs.YtelfaljidgfphaaGreat
open Go.RowKit

/-- Nothing has turned; something may have been drawn. -/
def Qt (w w' : World) : Prop := ∃ n, w' = w.drewN n
theorem Qt.refl (w : World) : Qt w w := ⟨0, rfl⟩
theorem Qt.drewN {w w' : World} (h : Qt w w') (n : Nat) : Qt w (w'.drewN n) := by obtain ⟨m, rfl⟩ := h; exact ⟨m + n, World.drewN_drewN _ _ _⟩
theorem Qt.gr {w w' : World} (h : Qt w w') : Gr w w' := by obtain ⟨m, rfl⟩ := h; exact (Gr.refl w).drewN m

def IntsRel (w : World) (l m : List Int) (i : Value) (wr : World) : Prop := ∃ k : Nat, k ≤ m.length ∧ l.take k = m.take k ∧ i = .int .i64 k ∧ Qt w wr
def PQuiet (w : World) (v : Value) (e : Ending) (w' : World) : Prop := e = .returned v ∧ Qt w w'

set_option maxHeartbeats 400000 in
/-- 'ints(a, b)' -/
theorem ints_any (w : World) (ok ok' : Nat → Prop) (A B : Option Addr) (c d : Nat) (l m : List Int) (ha : Ints w ok (.slice A l.length c) l) (hb : Ints w ok' (.slice B m.length d) m)
    (hl : l.length ≤ 9223372036854775807) :
    Calls Tryz.prog 30 #[.slice A l.length c, .slice B m.length d] w (PQuiet w (.bool (decide (l = m)))) := by
  by_cases hlen : l.length = m.length
  · have Hlen : Hid (l.length = m.length) := hlen
    go_enter Tryz.func30, Tryz.ntmps30
    go_wp2
    clear hlen
    go_loopw [13] (IntsRel w l m) (fun i _ => m.length - (intOf i).toNat)
    case atStart => exact ⟨0, by omega, by simp, rfl, Qt.refl w⟩
    case round =>
      obtain ⟨k, hk, heq, rfl, hq⟩ := hrel
      by_cases hlt : k < m.length
      · have hlt' : k < l.length := by rw [Hlen.out]; exact hlt
        obtain ⟨b, o, rfl, -, -, hc⟩ := (ha.gr hq.gr).at_ hlt'
        obtain ⟨b', o', rfl, -, -, hc'⟩ := (hb.gr hq.gr).at_ hlt
        obtain ⟨x, hx⟩ := get_lt hlt'
        obtain ⟨y, hy⟩ := get_lt hlt
        have c1 := hc x hx
        have c2 := hc' y hy
        have Heq : Hid (l.take k = m.take k) := heq
        have Hx : Hid (l[k]? = some x) := hx
        have Hy : Hid (m[k]? = some y) := hy
        clear hc hc' ha hb heq hx hy
        have hk2 : (k : Int) < (l.length : Int) := by omega
        by_cases hxy : x = y
        · have hb1 : (x != y) = false := by simp [hxy]
          have Hxy := Lib.hid hxy
          clear hxy
          go_wp2
          go_quiet (fail)
          go_wp2
          go_roundw
          case rel => exact ⟨k + 1, by omega, take_succ_eq Hx.out Hy.out Heq.out Hxy.out, by go_num, hq.drewN _⟩
          case measure => simp [intOf]; omega
        · have hb1 : (x != y) = true := by simp [hxy]
          have hne : l ≠ m := fun e => hxy (by subst e; have h1 := Hx.out; rw [Hy.out] at h1; cases h1; rfl)
          have Hne : Hid (decide (l = m) = false) := by show _ = _; simp [hne]
          clear hxy hne
          go_wp2
          go_quiet (fail)
          go_wp2
          go_ret
          exact ⟨by rw [Hne.out]; rfl, hq.drewN _⟩
      · have hk0 : k = m.length := by omega
        subst hk0
        have hall : l = m := by
          have h1 := heq
          rw [List.take_length, ← Hlen.out, List.take_length] at h1
          exact h1
        subst hall
        clear heq
        go_wp2
        go_ret
        exact ⟨by simp, hq⟩
  · have hne : l ≠ m := fun e => hlen (by rw [e])
    have Hne : Hid (decide (l = m) = false) := by show _ = _; simp [hne]
    have hb1 : decide (l.length = m.length) = false := by simpa using hlen
    clear hne
    go_enter Tryz.func30, Tryz.ntmps30
    go_wp2
    go_ret
    exact ⟨by rw [Hne.out]; rfl, Qt.refl w⟩

def ListsRel (w : World) (l m : List (List Int)) (i : Value) (wr : World) : Prop := ∃ k : Nat, k ≤ m.length ∧ l.take k = m.take k ∧ i = .int .i64 k ∧ Qt w wr

theorem Arr.drewN {w : World} {ok : Nat → Prop} {v : Value} {n sz : Nat} {cs : List Value} (h : Arr w ok v n sz cs) (k : Nat) : Arr (w.drewN k) ok v n sz cs := h.fr (S := fun _ => False) ((Gr.refl w).drewN k) (fun _ _ => id)

set_option maxHeartbeats 400000 in
/-- 'lists(a, b)' -/
theorem lists_any (w : World) (ok ok' : Nat → Prop) (A B : Option Addr) (c d : Nat) (l m : List (List Int)) (ha : Lists w ok (.slice A l.length c) l) (hb : Lists w ok' (.slice B m.length d) m)
    (hl : l.length ≤ 9223372036854775807) (hs : ∀ x ∈ l, x.length ≤ 9223372036854775807) :
    Calls Tryz.prog 21 #[.slice A l.length c, .slice B m.length d] w (PQuiet w (.bool (decide (l = m)))) := by
  have Hs := Lib.hid hs
  clear hs
  by_cases hlen : l.length = m.length
  · have Hlen : Hid (l.length = m.length) := hlen
    go_enter Tryz.func21, Tryz.ntmps21
    go_wp2
    clear hlen
    go_loopw [13] (ListsRel w l m) (fun i _ => m.length - (intOf i).toNat)
    case atStart => exact ⟨0, by omega, by simp, rfl, Qt.refl w⟩
    case round =>
      obtain ⟨k, hk, heq, rfl, hq⟩ := hrel
      by_cases hlt : k < m.length
      · have hlt' : k < l.length := by rw [Hlen.out]; exact hlt
        obtain ⟨b, o, rfl, -, -, hc⟩ := (ha.gr hq.gr).at_ hlt'
        obtain ⟨b', o', rfl, -, -, hc'⟩ := (hb.gr hq.gr).at_ hlt
        obtain ⟨x, hx⟩ := get_lt hlt'
        obtain ⟨y, hy⟩ := get_lt hlt
        obtain ⟨A1, c1, ca, hx1⟩ := hc x hx
        obtain ⟨A2, c2, cb, hy1⟩ := hc' y hy
        have Heq : Hid (l.take k = m.take k) := heq
        have Hx : Hid (l[k]? = some x) := hx
        have Hy : Hid (m[k]? = some y) := hy
        have hxl := Hs.out x (List.mem_of_getElem? hx)
        clear hc hc' ha hb heq hx hy
        have hk2 : (k : Int) < (l.length : Int) := by omega
        by_cases hxy : x = y
        · have hb1 : decide (x = y) = true := by simp [hxy]
          have Hxy := Lib.hid hxy
          clear hxy
          go_wp2
          go_quiet ((go_at_call 30; exact Calls.quiet_of (ints_any _ _ _ A1 A2 c1 c2 x y (hx1.drewN _) (hy1.drewN _) hxl)))
          go_wp2
          go_roundw
          case rel => exact ⟨k + 1, by omega, take_succ_eq Hx.out Hy.out Heq.out Hxy.out, by go_num, hq.drewN _⟩
          case measure => simp [intOf]; omega
        · have hb1 : decide (x = y) = false := by simp [hxy]
          have hne : l ≠ m := fun e => hxy (by subst e; have h1 := Hx.out; rw [Hy.out] at h1; cases h1; rfl)
          have Hne : Hid (decide (l = m) = false) := by show _ = _; simp [hne]
          clear hxy hne
          go_wp2
          go_quiet ((go_at_call 30; exact Calls.quiet_of (ints_any _ _ _ A1 A2 c1 c2 x y (hx1.drewN _) (hy1.drewN _) hxl)))
          go_wp2
          go_ret
          exact ⟨by rw [Hne.out]; rfl, hq.drewN _⟩
      · have hk0 : k = m.length := by omega
        subst hk0
        have hall : l = m := by
          have h1 := heq
          rw [List.take_length, ← Hlen.out, List.take_length] at h1
          exact h1
        subst hall
        clear heq
        go_wp2
        go_ret
        exact ⟨by simp, hq⟩
  · have hne : l ≠ m := fun e => hlen (by rw [e])
    have Hne : Hid (decide (l = m) = false) := by show _ = _; simp [hne]
    have hb1 : decide (l.length = m.length) = false := by simpa using hlen
    clear hne
    go_enter Tryz.func21, Tryz.ntmps21
    go_wp2
    go_ret
    exact ⟨by rw [Hne.out]; rfl, Qt.refl w⟩

def ListRel (w : World) (l : List Bool) (v i : Value) (wr : World) : Prop :=
  ∃ k : Nat, k ≤ l.length ∧ i = .int .i64 k ∧ Own wr (fun b => w.heap.size ≤ b) 3 1 v (marksTo l k).length ((ints (marksTo l k)).map intV) ∧ Gr w wr

set_option maxHeartbeats 400000 in
/-- 'list(l)' -/
theorem list_any (w : World) (ok : Nat → Prop) (A : Option Addr) (c : Nat) (l : List Bool) (hp : Bools w ok (.slice A l.length c) l) (hl : l.length ≤ 1099511627776) :
    Calls Tryz.prog 48 #[.slice A l.length c] w (PVal fun v w' => Own w' (fun b => w.heap.size ≤ b) 3 1 v (marks l).length ((ints (marks l)).map intV) ∧ Gr w w') := by
  go_enter Tryz.func48, Tryz.ntmps48
  go_wp2
  go_loopw [3, 8] (ListRel w l) (fun _ i _ => l.length - (intOf i).toNat)
  case atStart => exact ⟨0, by omega, rfl, Own.nil _ _ _ _, Gr.refl w⟩
  case round =>
    obtain ⟨k, hkp, rfl, hown, hgr⟩ := hrel
    by_cases hlt : k < l.length
    · obtain ⟨b, o, rfl, -, -, hc⟩ := (hp.gr hgr).at_ hlt
      obtain ⟨x, hx⟩ := get_lt hlt
      have c1 := hc x hx
      have hgd : l.getD k false = x := by simp [hx]
      have Hsucc := Lib.hid (marksTo_succ l k)
      have hml := marksTo_length l k
      have Hgd := Lib.hid hgd
      clear hc hx hgd
      cases x with
      | true =>
        obtain ⟨v4, w4, Hr, hown4, -, hfr4, -, -⟩ := app1 (P := Tryz.prog) (t := 29) (ty := 29) elem3 Tryz.underlying29 hown (.int .i64 (k : Int)) rfl hgr.size (by omega) (by omega)
        go_wp2_with (at_builtin; refine wpList_appended rfl _ _ _ _ rfl rfl rfl Hr ?_)
        go_roundw
        case rel =>
          refine ⟨k + 1, by omega, by go_num, ?_, hgr.own hfr4 (Nat.le_refl _)⟩
          rw [Hsucc.out, Hgd.out, if_pos rfl, intsV_snoc, List.length_append]
          exact hown4
        case measure => simp [intOf]; omega
      | false =>
        go_wp2
        go_roundw
        case rel =>
          refine ⟨k + 1, by omega, by go_num, ?_, hgr⟩
          rw [Hsucc.out, Hgd.out, if_neg (by simp), List.append_nil]
          exact hown
        case measure => simp [intOf]; omega
    · have hk0 : k = l.length := by omega
      subst hk0
      go_wp2
      go_ret
      exact ⟨_, rfl, hown, hgr⟩

theorem ini_cases (x : It) : (x.ini = true ∧ (x.kind == 0) = true) ∨ (x.ini = true ∧ (x.kind == 0) = false ∧ (x.kind == 1) = true) ∨ (x.ini = false ∧ (x.kind == 0) = false ∧ (x.kind == 1) = false) := by
  unfold It.ini
  cases h0 : (x.kind == 0) <;> cases h1 : (x.kind == 1) <;> simp

def lists (l : List (List Nat)) : List (List Int) := l.map ints
theorem lists_snoc (l : List (List Nat)) (x : List Nat) : lists (l ++ [x]) = lists l ++ [ints x] := by simp [lists]
theorem lists_length (l : List (List Nat)) : (lists l).length = l.length := by simp [lists]

def InitsRel (w : World) (p : List It) (v i : Value) (wr : World) : Prop :=
  ∃ k : Nat, k ≤ p.length ∧ i = .int .i64 k ∧ OwnLists wr w.heap.size v (lists (initsTo p k)) ∧ Gr w wr

set_option maxHeartbeats 800000 in
/-- 'p.Initializers()' -/
theorem Initializers_any (w : World) (ok : Nat → Prop) (A : Option Addr) (c : Nat) (p : List It) (hp : Its w ok (.slice A p.length c) p) (hk : KOk p) (hl : p.length ≤ 2097152) :
    Calls Tryz.prog 37 #[.slice A p.length c] w (PVal fun v w' => OwnLists w' w.heap.size v (lists (inits p)) ∧ Gr w w') := by
  have hpc := hp.cap
  go_enter Tryz.func37, Tryz.ntmps37
  go_wp2
  go_loopw [3, 8] (InitsRel w p) (fun _ i _ => p.length - (intOf i).toNat)
  case atStart => exact ⟨0, by omega, rfl, OwnLists.nil _ _, Gr.refl w⟩
  case round =>
    obtain ⟨k, hkp, rfl, hown, hgr⟩ := hrel
    by_cases hlt : k < p.length
    · obtain ⟨b, o, A', c', rfl, -, -, c0, c1, c2, -⟩ := (hp.gr hgr).at_ hlt
      have Hsucc := Lib.hid (initsTo_succ p k)
      have hil := initsTo_length p k
      have hcall : ∀ x, Calls Tryz.prog 31 #[.slice (some ⟨b, o, none⟩) p.length c, .int .i64 k] (wr.alloc x) (PVal fun v w' => Own w' (fun b => (wr.alloc x).heap.size ≤ b) 3 1 v (it p k).n ((ints (objs p k)).map intV) ∧ Gr (wr.alloc x) w') :=
        fun x => Objects_any _ ok _ _ p k (hp.gr (hgr.alloc x)) hpc hk hl hlt
      have Hcall := Lib.hid hcall
      clear hcall
      rcases ini_cases (it p k) with ⟨hi, h0⟩ | ⟨hi, h0, h1⟩ | ⟨hi, h0, h1⟩
      · have Hi := Lib.hid hi
        clear hi
        go_wp2_with (first | (go_at_call 31; refine (Hcall.out _).mono ?_; rintro e w1 ⟨v1, rfl, ho1, hg1⟩; obtain ⟨A1, cc1, rfl⟩ := ho1.val; obtain ⟨v4, w4, Hr, hown4, hfr4, -⟩ := OwnLists.push (t := 32) (ty := 32) (hown.gr (((Gr.refl _).alloc _).trans hg1)) (x := ints (objs p k)) (ho1.ints.mono (fun b _ hb e => by have := hown.lt b e; simp at hb; omega)) Tryz.underlying32 (by have := ((hgr.alloc _).trans hg1).size; omega) (by rw [lists_length]; omega)) | (at_builtin; refine wpList_appended rfl _ _ _ _ rfl rfl rfl Hr ?_))
        go_roundw
        case rel =>
          refine ⟨k + 1, by omega, by go_num, ?_, ((hgr.alloc _).trans hg1).own hfr4 (Nat.le_refl _)⟩
          rw [Hsucc.out, Hi.out, if_pos rfl, lists_snoc]
          exact hown4
        case measure => simp [intOf]; omega
      · have Hi := Lib.hid hi
        clear hi
        go_wp2_with (first | (go_at_call 31; refine (Hcall.out _).mono ?_; rintro e w1 ⟨v1, rfl, ho1, hg1⟩; obtain ⟨A1, cc1, rfl⟩ := ho1.val; obtain ⟨v4, w4, Hr, hown4, hfr4, -⟩ := OwnLists.push (t := 32) (ty := 32) (hown.gr (((Gr.refl _).alloc _).trans hg1)) (x := ints (objs p k)) (ho1.ints.mono (fun b _ hb e => by have := hown.lt b e; simp at hb; omega)) Tryz.underlying32 (by have := ((hgr.alloc _).trans hg1).size; omega) (by rw [lists_length]; omega)) | (at_builtin; refine wpList_appended rfl _ _ _ _ rfl rfl rfl Hr ?_))
        go_roundw
        case rel =>
          refine ⟨k + 1, by omega, by go_num, ?_, ((hgr.alloc _).trans hg1).own hfr4 (Nat.le_refl _)⟩
          rw [Hsucc.out, Hi.out, if_pos rfl, lists_snoc]
          exact hown4
        case measure => simp [intOf]; omega
      · have Hi := Lib.hid hi
        clear hi
        go_wp2
        go_roundw
        case rel =>
          refine ⟨k + 1, by omega, by go_num, ?_, hgr.alloc _⟩
          rw [Hsucc.out, Hi.out, if_neg (by simp), List.append_nil]
          exact hown.gr ((Gr.refl _).alloc _)
        case measure => simp [intOf]; omega
    · have hk0 : k = p.length := by omega
      subst hk0
      go_wp2
      go_ret
      exact ⟨_, rfl, hown, hgr⟩
end Go.Proofs.YtelfaljidgfphaaGreat
