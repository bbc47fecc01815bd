/-
  The walk of 'nodes' (package impl).
-/
import Derived.Test.YtelfaljidgfphaaGreatI2
namespace Go.Proofs.YtelfaljidgfphaaGreat
open Go.RowKit

def NodesRel (w : World) (p : List It) (v i : Value) (wr : World) : Prop :=
  ∃ k : Nat, k ≤ p.length ∧ i = .int .i64 k ∧ OwnNds wr w.heap.size v (nodesOf p (start p k)) ∧ Gr w wr
/-- Within a declaration: so many objects of it have been laid; the block bn holds the last of them. -/
def NodesRel2 (w : World) (p : List It) (k bn : Nat) (kd : Int) (ini : Bool) (grp : Int) (A' : Option Addr) (c' : Nat) (v i : Value) (wr : World) : Prop :=
  ∃ j : Nat, j < (it p k).n ∧ i = .int .i64 j ∧ OwnNds wr w.heap.size v (nodesOf p (start p k + j + 1)) ∧ Gr w wr ∧ w.heap.size ≤ bn ∧ v.ownBlock ≠ some bn ∧ bn < wr.heap.size ∧
    wr.heap[bn]? = some (.cells #[.int .i64 kd, .int .u32 ((start p k : Int) + (j : Int)), .bool ini, .int .i64 grp, .slice A' (it p k).refs.length c'] 94 (0, 0))

theorem ndOf_start {p : List It} {k j : Nat} (h : k < p.length) (hj : j < (it p k).n) : ndOf p (start p k + j) = ⟨kindN (it p k), start p k + j, (it p k).ini, if (it p k).kind = 1 then k + 1 else 0, (it p k).refs⟩ := by
  unfold ndOf
  rw [own_start h hj]

/-- The kinds, one by one, in the form of the tests. -/
inductive KWay (x : It) : Prop
  | var (h0 : (x.kind == 0) = true) (h3 : (x.kind == 3) = false) (h4 : (x.kind == 4) = false) (h1 : (x.kind == 1) = false) (hm : -1 ≤ x.many ∧ x.many ≤ 0) (hn : x.n ≤ 1) (e1 : Hid (kindN x = 1)) (e2 : Hid (x.ini = true)) (e3 : Hid (x.kind ≠ 1))
  | group (h0 : (x.kind == 0) = false) (h3 : (x.kind == 3) = false) (h4 : (x.kind == 4) = false) (h1 : (x.kind == 1) = true) (hm : x.many ≤ x.n) (hm' : (x.n : Int) ≤ x.many) (e1 : Hid (kindN x = 1)) (e2 : Hid (x.ini = true)) (e3 : Hid (x.kind = 1))
  | plain (h0 : (x.kind == 0) = false) (h3 : (x.kind == 3) = false) (h4 : (x.kind == 4) = false) (h1 : (x.kind == 1) = false) (hm : -1 ≤ x.many ∧ x.many ≤ 0) (hn : x.n ≤ 1) (e1 : Hid (kindN x = 1)) (e2 : Hid (x.ini = false)) (e3 : Hid (x.kind ≠ 1))
  | func (h0 : (x.kind == 0) = false) (h3 : (x.kind == 3) = true) (h4 : (x.kind == 4) = false) (h1 : (x.kind == 1) = false) (hm : -1 ≤ x.many ∧ x.many ≤ 0) (hn : x.n ≤ 1) (e1 : Hid (kindN x = 2)) (e2 : Hid (x.ini = false)) (e3 : Hid (x.kind ≠ 1))
  | const (h0 : (x.kind == 0) = false) (h3 : (x.kind == 3) = false) (h4 : (x.kind == 4) = true) (h1 : (x.kind == 1) = false) (hm : -1 ≤ x.many ∧ x.many ≤ 0) (hn : x.n ≤ 1) (e1 : Hid (kindN x = 0)) (e2 : Hid (x.ini = false)) (e3 : Hid (x.kind ≠ 1))

theorem kway {p : List It} (hk : KOk p) {x : It} (hx : x ∈ p) : KWay x := by
  obtain ⟨h1, h2, h3, h4, h5⟩ := hk x hx
  have hmany : -1 ≤ x.many ∧ x.many ≤ 100 := by
    by_cases e : x.kind = 1
    · have := h3 e; omega
    · have := h4 e; omega
  rcases (by omega : x.kind = 0 ∨ x.kind = 1 ∨ x.kind = 2 ∨ x.kind = 3 ∨ x.kind = 4) with e | e | e | e | e
  · exact .var (by simp [e]) (by simp [e]) (by simp [e]) (by simp [e]) (by have := h4 (by omega); omega) (by simp [It.n, e]) (by show _ = _; simp [kindN, e]) (by show _ = _; simp [It.ini, e]) (by show _ ≠ _; omega)
  · exact .group (by simp [e]) (by simp [e]) (by simp [e]) (by simp [e]) (by have := h3 e; simp [It.n, e]; omega) (by have := h3 e; simp [It.n, e]; omega) (by show _ = _; simp [kindN, e]) (by show _ = _; simp [It.ini, e]) e
  · exact .plain (by simp [e]) (by simp [e]) (by simp [e]) (by simp [e]) (by have := h4 (by omega); omega) (by simp [It.n, e]) (by show _ = _; simp [kindN, e]) (by show _ = _; simp [It.ini, e]) (by show _ ≠ _; omega)
  · exact .func (by simp [e]) (by simp [e]) (by simp [e]) (by simp [e]) (by have := h4 (by omega); omega) (by simp [It.n, e]) (by show _ = _; simp [kindN, e]) (by show _ = _; simp [It.ini, e]) (by show _ ≠ _; omega)
  · exact .const (by simp [e]) (by simp [e]) (by simp [e]) (by simp [e]) (by have := h4 (by omega); omega) (by simp [It.n, e]) (by show _ = _; simp [kindN, e]) (by show _ = _; simp [It.ini, e]) (by show _ ≠ _; omega)

set_option maxHeartbeats 2000000 in
set_option maxRecDepth 100000 in
theorem nodes_any (w : World) (ok : Nat → Prop) (A : Option Addr) (c : Nat) (p : List It) (hp : Its w ok (.slice A p.length c) p) (hk : KOk p) (hl : p.length ≤ 2097152) :
    Calls Tryz.prog 54 #[.slice A p.length c] w (PVal fun v w' => OwnNds w' w.heap.size v (nodesOf p (cnt p)) ∧ Gr w w') := by
  have hcnt := cnt_le hk
  have hcnt : cnt p ≤ 209715200 := by omega
  go_enter Tryz.func54, Tryz.ntmps54
  go_wp2
  go_loopw [3, 9] (NodesRel w p) (fun _ i _ => p.length - (intOf i).toNat)
  case atStart => exact ⟨0, by omega, rfl, by rw [start_zero]; exact OwnNds.nil _ _, Gr.refl w⟩
  case round =>
    obtain ⟨k, hkp, rfl, hown, hgr⟩ := hrel
    by_cases hlt : k < p.length
    · obtain ⟨b, o, A', c', rfl, -, -, c0, c1, c2, hi⟩ := hp.at_ hlt
      have c0' := hgr.cell c0
      have c1' := hgr.cell c1
      have c2' := hgr.cell c2
      have hn := n_pos hk (it_mem hlt)
      have hst := start_lt (p := p) (k := k) (j := 0) hlt (by omega)
      have hst' : start p k + (it p k).n ≤ cnt p := by have h1 := start_succ (it_get hlt); have h2 := start_mono (p := p) (j := k + 1) (k := p.length) (by omega) (Nat.le_refl _); rw [start_length] at h2; omega
      have hi0 := hi.mono (ok' := fun b => b < w.heap.size) (fun b hb _ => hb)
      have hi' := hi0.gr hgr
      obtain ⟨Au, cu, rfl⟩ : ∃ Au cu, u3 = .slice Au (start p k) cu := by
        obtain ⟨Au, cu, h⟩ := hown.nds.val
        rw [nodesOf_length] at h
        exact ⟨Au, cu, h⟩
      have Hnd := Lib.hid (fun j (hj : j < (it p k).n) => ndOf_start hlt hj)
      clear c0 c1 c2
      rcases kway hk (it_mem hlt) with ⟨h0, h3, h4, h1, hm, hn1, e1, e2, e3⟩ | ⟨h0, h3, h4, h1, hm, hm', e1, e2, e3⟩ | ⟨h0, h3, h4, h1, hm, hn1, e1, e2, e3⟩ | ⟨h0, h3, h4, h1, hm, hn1, e1, e2, e3⟩ | ⟨h0, h3, h4, h1, hm, hn1, e1, e2, e3⟩
      -- var
      · have hx : ∀ j : Nat, j < (it p k).n → ndOf p (start p k + j) = ⟨1, start p k + j, true, 0, (it p k).refs⟩ := fun j hj => by rw [Hnd.out j hj, e1.out, e2.out]; rw [if_neg e3.out]
        have hx := Lib.hid hx
        have hg1 : Gr wr ((wr.alloc (.cells #[.int .i64 (it p k).kind, .int .i64 (it p k).many, .slice A' (it p k).refs.length c'] 55)).alloc (.cells #[.int .i64 1, .int .u32 (start p k : Int), .bool true, .int .i64 0, .slice A' (it p k).refs.length c'] 94)) := ((Gr.refl wr).alloc _).alloc _
        have hsz := hgr.size
        obtain ⟨v1, w1, Hr, hown1, hf1, hf2, hblk⟩ := (hown.gr hg1).push (x := ⟨1, start p k + 0, true, 0, (it p k).refs⟩) (hi'.gr hg1) (by simp; omega) (by rw [nodesOf_length]; omega) (xs := #[.int .i64 1, .int .u32 (start p k : Int), .bool true, .int .i64 0, .slice A' (it p k).refs.length c']) (by simp)
        simp only [World.size_alloc] at Hr
        have hbn : (Value.slice Au (start p k) cu).ownBlock ≠ some (wr.heap.size + 1) := fun e => by have := hown.lt _ e; omega
        have hcell : w1.heap[wr.heap.size + 1]? = some (.cells #[.int .i64 1, .int .u32 (start p k : Int), .bool true, .int .i64 0, .slice A' (it p k).refs.length c'] 94 (0, 0)) := by
          have h := heap_alloc_new (wr.alloc (.cells #[.int .i64 (it p k).kind, .int .i64 (it p k).many, .slice A' (it p k).refs.length c'] 55)) (.cells #[.int .i64 1, .int .u32 (start p k : Int), .bool true, .int .i64 0, .slice A' (it p k).refs.length c'] 94)
          rw [World.size_alloc] at h
          exact hf1.heap h hbn
        have hitem : w1.heap[wr.heap.size]? = some (.cells #[.int .i64 (it p k).kind, .int .i64 (it p k).many, .slice A' (it p k).refs.length c'] 55 (0, 0)) := by
          have h := heap_alloc_new wr (.cells #[.int .i64 (it p k).kind, .int .i64 (it p k).many, .slice A' (it p k).refs.length c'] 55)
          exact hf1.heap ((heap_alloc_old _ _ (by simp)).trans h) (fun e => by have := hown.lt _ e; omega)
        have hm1 : w1.cell? ⟨wr.heap.size, 1, none⟩ = some (.int .i64 (it p k).many) := by rw [cell_row hitem]; rfl
        rw [← hx.out 0 (by omega), Nat.add_zero, ← nodesOf_succ] at hown1
        obtain ⟨A1, d1, rfl⟩ : ∃ A1 d1, v1 = .slice A1 (start p k + 1) d1 := by
          obtain ⟨A1, d1, h⟩ := hown1.nds.val
          rw [nodesOf_length] at h
          exact ⟨A1, d1, h⟩
        have hsz1 := hf1.size
        simp only [World.size_alloc] at hsz1
        go_wp2_with (at_builtin; refine wpList_appended rfl _ _ _ _ rfl rfl rfl Hr ?_)
        all_goals
          go_loopw [3, 48] (NodesRel2 w p k (wr.heap.size + 1) 1 true 0 A' c') (fun _ j _ => (it p k).n - (intOf j).toNat)
          case atStart =>
            refine ⟨0, by omega, rfl, ?_, (hgr.trans hg1).own hf2 (Nat.le_refl _), by omega, fun e => (hblk _ e).elim hbn (fun h => by simp only [World.size_alloc] at h; omega), by omega, by simpa using hcell⟩
            exact hown1
          case round =>
            rename World => w3
            obtain ⟨j, hj, rfl, hown3, hgr3, hb3, hne3, hlt3, hnode3⟩ := hrel
            obtain ⟨A3, d3, rfl⟩ : ∃ A3 d3, u3 = .slice A3 (start p k + j + 1) d3 := by
              obtain ⟨A3, d3, h⟩ := hown3.nds.val
              rw [nodesOf_length] at h
              exact ⟨A3, d3, h⟩
            have hst3 : start p k + j < cnt p := by omega
            have hj0 : j = 0 := by omega
            subst hj0
            go_wp2
            go_roundw
            case rel =>
              refine ⟨k + 1, by omega, by go_num, ?_, hgr3⟩
              rw [start_succ (it_get hlt), show (it p k).n = 0 + 1 from by omega]
              exact hown3
            case measure => simp [intOf]; omega
      -- group
      · have hx : ∀ j : Nat, j < (it p k).n → ndOf p (start p k + j) = ⟨1, start p k + j, true, k + 1, (it p k).refs⟩ := fun j hj => by rw [Hnd.out j hj, e1.out, e2.out]; rw [if_pos e3.out]
        have hx := Lib.hid hx
        have hg1 : Gr wr ((wr.alloc (.cells #[.int .i64 (it p k).kind, .int .i64 (it p k).many, .slice A' (it p k).refs.length c'] 55)).alloc (.cells #[.int .i64 1, .int .u32 (start p k : Int), .bool true, .int .i64 ((k : Int) + 1), .slice A' (it p k).refs.length c'] 94)) := ((Gr.refl wr).alloc _).alloc _
        have hsz := hgr.size
        obtain ⟨v1, w1, Hr, hown1, hf1, hf2, hblk⟩ := (hown.gr hg1).push (x := ⟨1, start p k + 0, true, k + 1, (it p k).refs⟩) (hi'.gr hg1) (by simp; omega) (by rw [nodesOf_length]; omega) (xs := #[.int .i64 1, .int .u32 (start p k : Int), .bool true, .int .i64 ((k : Int) + 1), .slice A' (it p k).refs.length c']) (by simp)
        simp only [World.size_alloc] at Hr
        have hbn : (Value.slice Au (start p k) cu).ownBlock ≠ some (wr.heap.size + 1) := fun e => by have := hown.lt _ e; omega
        have hcell : w1.heap[wr.heap.size + 1]? = some (.cells #[.int .i64 1, .int .u32 (start p k : Int), .bool true, .int .i64 ((k : Int) + 1), .slice A' (it p k).refs.length c'] 94 (0, 0)) := by
          have h := heap_alloc_new (wr.alloc (.cells #[.int .i64 (it p k).kind, .int .i64 (it p k).many, .slice A' (it p k).refs.length c'] 55)) (.cells #[.int .i64 1, .int .u32 (start p k : Int), .bool true, .int .i64 ((k : Int) + 1), .slice A' (it p k).refs.length c'] 94)
          rw [World.size_alloc] at h
          exact hf1.heap h hbn
        have hitem : w1.heap[wr.heap.size]? = some (.cells #[.int .i64 (it p k).kind, .int .i64 (it p k).many, .slice A' (it p k).refs.length c'] 55 (0, 0)) := by
          have h := heap_alloc_new wr (.cells #[.int .i64 (it p k).kind, .int .i64 (it p k).many, .slice A' (it p k).refs.length c'] 55)
          exact hf1.heap ((heap_alloc_old _ _ (by simp)).trans h) (fun e => by have := hown.lt _ e; omega)
        have hm1 : w1.cell? ⟨wr.heap.size, 1, none⟩ = some (.int .i64 (it p k).many) := by rw [cell_row hitem]; rfl
        rw [← hx.out 0 (by omega), Nat.add_zero, ← nodesOf_succ] at hown1
        obtain ⟨A1, d1, rfl⟩ : ∃ A1 d1, v1 = .slice A1 (start p k + 1) d1 := by
          obtain ⟨A1, d1, h⟩ := hown1.nds.val
          rw [nodesOf_length] at h
          exact ⟨A1, d1, h⟩
        have hsz1 := hf1.size
        simp only [World.size_alloc] at hsz1
        go_wp2_with (at_builtin; refine wpList_appended rfl _ _ _ _ rfl rfl rfl Hr ?_)
        all_goals
          go_loopw [3, 48] (NodesRel2 w p k (wr.heap.size + 1) 1 true ((k : Int) + 1) A' c') (fun _ j _ => (it p k).n - (intOf j).toNat)
          case atStart =>
            refine ⟨0, by omega, rfl, ?_, (hgr.trans hg1).own hf2 (Nat.le_refl _), by omega, fun e => (hblk _ e).elim hbn (fun h => by simp only [World.size_alloc] at h; omega), by omega, by simpa using hcell⟩
            exact hown1
          case round =>
            rename World => w3
            obtain ⟨j, hj, rfl, hown3, hgr3, hb3, hne3, hlt3, hnode3⟩ := hrel
            obtain ⟨A3, d3, rfl⟩ : ∃ A3 d3, u3 = .slice A3 (start p k + j + 1) d3 := by
              obtain ⟨A3, d3, h⟩ := hown3.nds.val
              rw [nodesOf_length] at h
              exact ⟨A3, d3, h⟩
            have hst3 : start p k + j < cnt p := by omega
            by_cases hjl : j + 1 < (it p k).n
            · have hf3 : Fr (fun b => b = wr.heap.size + 1) w3 (w3.setCell ⟨wr.heap.size + 1, 1, none⟩ (.int .u32 ((start p k : Int) + (j : Int) + 1))) := Fr.setCell (S := fun b => b = wr.heap.size + 1) (Fr.refl _ w3) (p := ⟨wr.heap.size + 1, 1, none⟩) rfl _
              have hown4 := hown3.fr hf3 (fun b hb e => by subst e; exact hne3 hb) (fun b hb => by omega)
              have hnode4 : (w3.setCell ⟨wr.heap.size + 1, 1, none⟩ (.int .u32 ((start p k : Int) + (j : Int) + 1))).heap[wr.heap.size + 1]? = some (.cells #[.int .i64 1, .int .u32 ((start p k : Int) + (j : Int) + 1), .bool true, .int .i64 ((k : Int) + 1), .slice A' (it p k).refs.length c'] 94 (0, 0)) := by
                rw [heap_setCell_same _ _ _ _ _ _ hnode3]; simp
              have hg4 : Gr w (w3.setCell ⟨wr.heap.size + 1, 1, none⟩ (.int .u32 ((start p k : Int) + (j : Int) + 1))) := hgr3.step hf3 (fun b hb => by omega)
              obtain ⟨v5, w5, Hr5, hown5, hf5, hf6, hblk5⟩ := hown4.push (x := ⟨1, start p k + (j + 1), true, k + 1, (it p k).refs⟩) (A := A') (c := c') (xs := #[.int .i64 1, .int .u32 ((start p k : Int) + (j : Int) + 1), .bool true, .int .i64 ((k : Int) + 1), .slice A' (it p k).refs.length c']) (hi0.gr hg4) (by rw [size_set]; omega) (by rw [nodesOf_length]; omega) (by simp; omega)
              have z0 : w3.cell? ⟨wr.heap.size + 1, 0, none⟩ = some (.int .i64 1) := by rw [cell_row hnode3]; rfl
              have z1 : w3.cell? ⟨wr.heap.size + 1, 1, none⟩ = some (.int .u32 ((start p k : Int) + (j : Int))) := by rw [cell_row hnode3]; rfl
              have z2 : w3.cell? ⟨wr.heap.size + 1, 2, none⟩ = some (.bool true) := by rw [cell_row hnode3]; rfl
              have z3 : w3.cell? ⟨wr.heap.size + 1, 3, none⟩ = some (.int .i64 ((k : Int) + 1)) := by rw [cell_row hnode3]; rfl
              have z4 : w3.cell? ⟨wr.heap.size + 1, 4, none⟩ = some (.slice A' (it p k).refs.length c') := by rw [cell_row hnode3]; rfl
              have zf := fun i => frozen_row hnode3 i
              simp only [size_set] at Hr5
              go_wp2_with (at_builtin; refine wpList_appended rfl _ _ _ _ rfl rfl rfl Hr5 ?_)
              rw [← hx.out (j + 1) hjl, ← Nat.add_assoc (start p k) j 1, ← nodesOf_succ] at hown5
              go_roundw
              case rel =>
                refine ⟨j + 1, hjl, by go_num, hown5, hg4.own hf6 (Nat.le_refl _), hb3, fun e => (hblk5 _ e).elim hne3 (fun h => by rw [size_set] at h; omega), by have := hf6.size; rw [size_set] at this; omega, ?_⟩
                have := hf5.heap hnode4 hne3
                simpa [Int.add_assoc] using this
              case measure => simp [intOf]; omega
            · have hj0 : j + 1 = (it p k).n := by omega
              go_wp2
              go_roundw
              case rel =>
                refine ⟨k + 1, by omega, by go_num, ?_, hgr3⟩
                rw [start_succ (it_get hlt), ← hj0]
                exact hown3
              case measure => simp [intOf]; omega
      -- plain
      · have hx : ∀ j : Nat, j < (it p k).n → ndOf p (start p k + j) = ⟨1, start p k + j, false, 0, (it p k).refs⟩ := fun j hj => by rw [Hnd.out j hj, e1.out, e2.out]; rw [if_neg e3.out]
        have hx := Lib.hid hx
        have hg1 : Gr wr ((wr.alloc (.cells #[.int .i64 (it p k).kind, .int .i64 (it p k).many, .slice A' (it p k).refs.length c'] 55)).alloc (.cells #[.int .i64 1, .int .u32 (start p k : Int), .bool false, .int .i64 0, .slice A' (it p k).refs.length c'] 94)) := ((Gr.refl wr).alloc _).alloc _
        have hsz := hgr.size
        obtain ⟨v1, w1, Hr, hown1, hf1, hf2, hblk⟩ := (hown.gr hg1).push (x := ⟨1, start p k + 0, false, 0, (it p k).refs⟩) (hi'.gr hg1) (by simp; omega) (by rw [nodesOf_length]; omega) (xs := #[.int .i64 1, .int .u32 (start p k : Int), .bool false, .int .i64 0, .slice A' (it p k).refs.length c']) (by simp)
        simp only [World.size_alloc] at Hr
        have hbn : (Value.slice Au (start p k) cu).ownBlock ≠ some (wr.heap.size + 1) := fun e => by have := hown.lt _ e; omega
        have hcell : w1.heap[wr.heap.size + 1]? = some (.cells #[.int .i64 1, .int .u32 (start p k : Int), .bool false, .int .i64 0, .slice A' (it p k).refs.length c'] 94 (0, 0)) := by
          have h := heap_alloc_new (wr.alloc (.cells #[.int .i64 (it p k).kind, .int .i64 (it p k).many, .slice A' (it p k).refs.length c'] 55)) (.cells #[.int .i64 1, .int .u32 (start p k : Int), .bool false, .int .i64 0, .slice A' (it p k).refs.length c'] 94)
          rw [World.size_alloc] at h
          exact hf1.heap h hbn
        have hitem : w1.heap[wr.heap.size]? = some (.cells #[.int .i64 (it p k).kind, .int .i64 (it p k).many, .slice A' (it p k).refs.length c'] 55 (0, 0)) := by
          have h := heap_alloc_new wr (.cells #[.int .i64 (it p k).kind, .int .i64 (it p k).many, .slice A' (it p k).refs.length c'] 55)
          exact hf1.heap ((heap_alloc_old _ _ (by simp)).trans h) (fun e => by have := hown.lt _ e; omega)
        have hm1 : w1.cell? ⟨wr.heap.size, 1, none⟩ = some (.int .i64 (it p k).many) := by rw [cell_row hitem]; rfl
        rw [← hx.out 0 (by omega), Nat.add_zero, ← nodesOf_succ] at hown1
        obtain ⟨A1, d1, rfl⟩ : ∃ A1 d1, v1 = .slice A1 (start p k + 1) d1 := by
          obtain ⟨A1, d1, h⟩ := hown1.nds.val
          rw [nodesOf_length] at h
          exact ⟨A1, d1, h⟩
        have hsz1 := hf1.size
        simp only [World.size_alloc] at hsz1
        go_wp2_with (at_builtin; refine wpList_appended rfl _ _ _ _ rfl rfl rfl Hr ?_)
        all_goals
          go_loopw [3, 48] (NodesRel2 w p k (wr.heap.size + 1) 1 false 0 A' c') (fun _ j _ => (it p k).n - (intOf j).toNat)
          case atStart =>
            refine ⟨0, by omega, rfl, ?_, (hgr.trans hg1).own hf2 (Nat.le_refl _), by omega, fun e => (hblk _ e).elim hbn (fun h => by simp only [World.size_alloc] at h; omega), by omega, by simpa using hcell⟩
            exact hown1
          case round =>
            rename World => w3
            obtain ⟨j, hj, rfl, hown3, hgr3, hb3, hne3, hlt3, hnode3⟩ := hrel
            obtain ⟨A3, d3, rfl⟩ : ∃ A3 d3, u3 = .slice A3 (start p k + j + 1) d3 := by
              obtain ⟨A3, d3, h⟩ := hown3.nds.val
              rw [nodesOf_length] at h
              exact ⟨A3, d3, h⟩
            have hst3 : start p k + j < cnt p := by omega
            have hj0 : j = 0 := by omega
            subst hj0
            go_wp2
            go_roundw
            case rel =>
              refine ⟨k + 1, by omega, by go_num, ?_, hgr3⟩
              rw [start_succ (it_get hlt), show (it p k).n = 0 + 1 from by omega]
              exact hown3
            case measure => simp [intOf]; omega
      -- func
      · have hx : ∀ j : Nat, j < (it p k).n → ndOf p (start p k + j) = ⟨2, start p k + j, false, 0, (it p k).refs⟩ := fun j hj => by rw [Hnd.out j hj, e1.out, e2.out]; rw [if_neg e3.out]
        have hx := Lib.hid hx
        have hg1 : Gr wr ((wr.alloc (.cells #[.int .i64 (it p k).kind, .int .i64 (it p k).many, .slice A' (it p k).refs.length c'] 55)).alloc (.cells #[.int .i64 2, .int .u32 (start p k : Int), .bool false, .int .i64 0, .slice A' (it p k).refs.length c'] 94)) := ((Gr.refl wr).alloc _).alloc _
        have hsz := hgr.size
        obtain ⟨v1, w1, Hr, hown1, hf1, hf2, hblk⟩ := (hown.gr hg1).push (x := ⟨2, start p k + 0, false, 0, (it p k).refs⟩) (hi'.gr hg1) (by simp; omega) (by rw [nodesOf_length]; omega) (xs := #[.int .i64 2, .int .u32 (start p k : Int), .bool false, .int .i64 0, .slice A' (it p k).refs.length c']) (by simp)
        simp only [World.size_alloc] at Hr
        have hbn : (Value.slice Au (start p k) cu).ownBlock ≠ some (wr.heap.size + 1) := fun e => by have := hown.lt _ e; omega
        have hcell : w1.heap[wr.heap.size + 1]? = some (.cells #[.int .i64 2, .int .u32 (start p k : Int), .bool false, .int .i64 0, .slice A' (it p k).refs.length c'] 94 (0, 0)) := by
          have h := heap_alloc_new (wr.alloc (.cells #[.int .i64 (it p k).kind, .int .i64 (it p k).many, .slice A' (it p k).refs.length c'] 55)) (.cells #[.int .i64 2, .int .u32 (start p k : Int), .bool false, .int .i64 0, .slice A' (it p k).refs.length c'] 94)
          rw [World.size_alloc] at h
          exact hf1.heap h hbn
        have hitem : w1.heap[wr.heap.size]? = some (.cells #[.int .i64 (it p k).kind, .int .i64 (it p k).many, .slice A' (it p k).refs.length c'] 55 (0, 0)) := by
          have h := heap_alloc_new wr (.cells #[.int .i64 (it p k).kind, .int .i64 (it p k).many, .slice A' (it p k).refs.length c'] 55)
          exact hf1.heap ((heap_alloc_old _ _ (by simp)).trans h) (fun e => by have := hown.lt _ e; omega)
        have hm1 : w1.cell? ⟨wr.heap.size, 1, none⟩ = some (.int .i64 (it p k).many) := by rw [cell_row hitem]; rfl
        rw [← hx.out 0 (by omega), Nat.add_zero, ← nodesOf_succ] at hown1
        obtain ⟨A1, d1, rfl⟩ : ∃ A1 d1, v1 = .slice A1 (start p k + 1) d1 := by
          obtain ⟨A1, d1, h⟩ := hown1.nds.val
          rw [nodesOf_length] at h
          exact ⟨A1, d1, h⟩
        have hsz1 := hf1.size
        simp only [World.size_alloc] at hsz1
        go_wp2_with (at_builtin; refine wpList_appended rfl _ _ _ _ rfl rfl rfl Hr ?_)
        all_goals
          go_loopw [3, 48] (NodesRel2 w p k (wr.heap.size + 1) 2 false 0 A' c') (fun _ j _ => (it p k).n - (intOf j).toNat)
          case atStart =>
            refine ⟨0, by omega, rfl, ?_, (hgr.trans hg1).own hf2 (Nat.le_refl _), by omega, fun e => (hblk _ e).elim hbn (fun h => by simp only [World.size_alloc] at h; omega), by omega, by simpa using hcell⟩
            exact hown1
          case round =>
            rename World => w3
            obtain ⟨j, hj, rfl, hown3, hgr3, hb3, hne3, hlt3, hnode3⟩ := hrel
            obtain ⟨A3, d3, rfl⟩ : ∃ A3 d3, u3 = .slice A3 (start p k + j + 1) d3 := by
              obtain ⟨A3, d3, h⟩ := hown3.nds.val
              rw [nodesOf_length] at h
              exact ⟨A3, d3, h⟩
            have hst3 : start p k + j < cnt p := by omega
            have hj0 : j = 0 := by omega
            subst hj0
            go_wp2
            go_roundw
            case rel =>
              refine ⟨k + 1, by omega, by go_num, ?_, hgr3⟩
              rw [start_succ (it_get hlt), show (it p k).n = 0 + 1 from by omega]
              exact hown3
            case measure => simp [intOf]; omega
      -- const
      · have hx : ∀ j : Nat, j < (it p k).n → ndOf p (start p k + j) = ⟨0, start p k + j, false, 0, (it p k).refs⟩ := fun j hj => by rw [Hnd.out j hj, e1.out, e2.out]; rw [if_neg e3.out]
        have hx := Lib.hid hx
        have hg1 : Gr wr ((wr.alloc (.cells #[.int .i64 (it p k).kind, .int .i64 (it p k).many, .slice A' (it p k).refs.length c'] 55)).alloc (.cells #[.int .i64 0, .int .u32 (start p k : Int), .bool false, .int .i64 0, .slice A' (it p k).refs.length c'] 94)) := ((Gr.refl wr).alloc _).alloc _
        have hsz := hgr.size
        obtain ⟨v1, w1, Hr, hown1, hf1, hf2, hblk⟩ := (hown.gr hg1).push (x := ⟨0, start p k + 0, false, 0, (it p k).refs⟩) (hi'.gr hg1) (by simp; omega) (by rw [nodesOf_length]; omega) (xs := #[.int .i64 0, .int .u32 (start p k : Int), .bool false, .int .i64 0, .slice A' (it p k).refs.length c']) (by simp)
        simp only [World.size_alloc] at Hr
        have hbn : (Value.slice Au (start p k) cu).ownBlock ≠ some (wr.heap.size + 1) := fun e => by have := hown.lt _ e; omega
        have hcell : w1.heap[wr.heap.size + 1]? = some (.cells #[.int .i64 0, .int .u32 (start p k : Int), .bool false, .int .i64 0, .slice A' (it p k).refs.length c'] 94 (0, 0)) := by
          have h := heap_alloc_new (wr.alloc (.cells #[.int .i64 (it p k).kind, .int .i64 (it p k).many, .slice A' (it p k).refs.length c'] 55)) (.cells #[.int .i64 0, .int .u32 (start p k : Int), .bool false, .int .i64 0, .slice A' (it p k).refs.length c'] 94)
          rw [World.size_alloc] at h
          exact hf1.heap h hbn
        have hitem : w1.heap[wr.heap.size]? = some (.cells #[.int .i64 (it p k).kind, .int .i64 (it p k).many, .slice A' (it p k).refs.length c'] 55 (0, 0)) := by
          have h := heap_alloc_new wr (.cells #[.int .i64 (it p k).kind, .int .i64 (it p k).many, .slice A' (it p k).refs.length c'] 55)
          exact hf1.heap ((heap_alloc_old _ _ (by simp)).trans h) (fun e => by have := hown.lt _ e; omega)
        have hm1 : w1.cell? ⟨wr.heap.size, 1, none⟩ = some (.int .i64 (it p k).many) := by rw [cell_row hitem]; rfl
        rw [← hx.out 0 (by omega), Nat.add_zero, ← nodesOf_succ] at hown1
        obtain ⟨A1, d1, rfl⟩ : ∃ A1 d1, v1 = .slice A1 (start p k + 1) d1 := by
          obtain ⟨A1, d1, h⟩ := hown1.nds.val
          rw [nodesOf_length] at h
          exact ⟨A1, d1, h⟩
        have hsz1 := hf1.size
        simp only [World.size_alloc] at hsz1
        go_wp2_with (at_builtin; refine wpList_appended rfl _ _ _ _ rfl rfl rfl Hr ?_)
        all_goals
          go_loopw [3, 48] (NodesRel2 w p k (wr.heap.size + 1) 0 false 0 A' c') (fun _ j _ => (it p k).n - (intOf j).toNat)
          case atStart =>
            refine ⟨0, by omega, rfl, ?_, (hgr.trans hg1).own hf2 (Nat.le_refl _), by omega, fun e => (hblk _ e).elim hbn (fun h => by simp only [World.size_alloc] at h; omega), by omega, by simpa using hcell⟩
            exact hown1
          case round =>
            rename World => w3
            obtain ⟨j, hj, rfl, hown3, hgr3, hb3, hne3, hlt3, hnode3⟩ := hrel
            obtain ⟨A3, d3, rfl⟩ : ∃ A3 d3, u3 = .slice A3 (start p k + j + 1) d3 := by
              obtain ⟨A3, d3, h⟩ := hown3.nds.val
              rw [nodesOf_length] at h
              exact ⟨A3, d3, h⟩
            have hst3 : start p k + j < cnt p := by omega
            have hj0 : j = 0 := by omega
            subst hj0
            go_wp2
            go_roundw
            case rel =>
              refine ⟨k + 1, by omega, by go_num, ?_, hgr3⟩
              rw [start_succ (it_get hlt), show (it p k).n = 0 + 1 from by omega]
              exact hown3
            case measure => simp [intOf]; omega
    · have hk0 : k = p.length := by omega
      subst hk0
      rw [start_length] at hown
      go_wp2
      go_ret
      exact ⟨_, rfl, hown, hgr⟩
end Go.Proofs.YtelfaljidgfphaaGreat
