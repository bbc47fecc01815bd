/-
  The queue's Less.
-/
import Derived.Test.YtelfaljidgfphaaGreatH2
import Derived.BigQuiet
namespace Go.Proofs.YtelfaljidgfphaaGreat
open Go.RowKit

theorem assert_const {t : Nat} (v : Value) (w : World) : (Instr.typeAssert (.iface t v) 85 111 true).run Tryz.prog w = .ok (.tuple (if t = 111 then #[v, .bool true] else #[.pointer none, .bool false])) w := by
  by_cases h : t = 111
  · simp [Instr.typeAssert, run_underlying Tryz.underlying111, h]
  · simp [Instr.typeAssert, run_underlying Tryz.underlying111, h]

set_option maxHeartbeats 1000000 in
set_option maxRecDepth 100000 in
theorem less_consts (w : World) (g o n c i j bx bY tx ty ox oy : Nat) (hi : i < n) (hj : j < n)
    (ai : w.cell? ⟨g, o + i, none⟩ = some (.pointer (some ⟨bx, 0, none⟩))) (aj : w.cell? ⟨g, o + j, none⟩ = some (.pointer (some ⟨bY, 0, none⟩)))
    (x0 : w.cell? ⟨bx, 0, none⟩ = some (.iface tx (.pointer (some ⟨ox, 0, none⟩)))) (y0 : w.cell? ⟨bY, 0, none⟩ = some (.iface ty (.pointer (some ⟨oy, 0, none⟩)))) (hne : (tx = 111) ≠ (ty = 111)) :
    Calls Tryz.prog 162 #[.slice (some ⟨g, o, none⟩) n c, .int .i64 i, .int .i64 j] w (fun e w' => e = .returned (.bool (decide (tx = 111))) ∧ ∃ q, w' = w.drewN q) := by
  have hi' : (i : Int) < (n : Int) := by omega
  have hj' : (j : Int) < (n : Int) := by omega
  have h1 := fun t v w => assert_const (t := t) v w
  by_cases hx : tx = 111
  · have hy : ¬ ty = 111 := fun h => hne (by simp [hx, h])
    go_enter Tryz.func162, Tryz.ntmps162
    go_wp2
    go_quiet (fail)
    go_wp2
    go_ret
    exact ⟨by simp [hx], _, rfl⟩
  · have hy : ty = 111 := Classical.byContradiction fun h => hne (by simp [hx, h])
    go_enter Tryz.func162, Tryz.ntmps162
    go_wp2
    go_quiet (fail)
    go_wp2
    go_ret
    exact ⟨by simp [hx], _, rfl⟩

set_option maxHeartbeats 1000000 in
set_option maxRecDepth 100000 in
theorem less_lt (w : World) (g o n c i j bx bY tx ty ox oy : Nat) (dx dy : Int) (hi : i < n) (hj : j < n)
    (ai : w.cell? ⟨g, o + i, none⟩ = some (.pointer (some ⟨bx, 0, none⟩))) (aj : w.cell? ⟨g, o + j, none⟩ = some (.pointer (some ⟨bY, 0, none⟩)))
    (x0 : w.cell? ⟨bx, 0, none⟩ = some (.iface tx (.pointer (some ⟨ox, 0, none⟩)))) (y0 : w.cell? ⟨bY, 0, none⟩ = some (.iface ty (.pointer (some ⟨oy, 0, none⟩)))) (x4 : w.cell? ⟨bx, 4, none⟩ = some (.int .i64 dx)) (y4 : w.cell? ⟨bY, 4, none⟩ = some (.int .i64 dy))
    (hxy : (tx = 111 ∧ ty = 111) ∨ (¬ tx = 111 ∧ ¬ ty = 111)) (hd : dx < dy) :
    Calls Tryz.prog 162 #[.slice (some ⟨g, o, none⟩) n c, .int .i64 i, .int .i64 j] w (fun e w' => e = .returned (.bool true) ∧ ∃ q, w' = w.drewN q) := by
  have hi' : (i : Int) < (n : Int) := by omega
  have hj' : (j : Int) < (n : Int) := by omega
  have h1 := fun t v w => assert_const (t := t) v w
  have hd' : decide (dx < dy) = true := by simp [hd]
  rcases hxy with ⟨hx, hy⟩ | ⟨hx, hy⟩
  · subst hx; subst hy
    go_enter Tryz.func162, Tryz.ntmps162
    go_wp2
    go_quiet (fail)
    go_wp2
    go_quiet (fail)
    go_wp2
    go_ret
    exact ⟨rfl, _, World.drewN_drewN _ _ _⟩
  · go_enter Tryz.func162, Tryz.ntmps162
    go_wp2
    go_quiet (fail)
    go_wp2
    go_quiet (fail)
    go_wp2
    go_ret
    exact ⟨rfl, _, World.drewN_drewN _ _ _⟩

set_option maxHeartbeats 1000000 in
set_option maxRecDepth 100000 in
theorem less_gt (w : World) (g o n c i j bx bY tx ty ox oy : Nat) (dx dy : Int) (hi : i < n) (hj : j < n)
    (ai : w.cell? ⟨g, o + i, none⟩ = some (.pointer (some ⟨bx, 0, none⟩))) (aj : w.cell? ⟨g, o + j, none⟩ = some (.pointer (some ⟨bY, 0, none⟩)))
    (x0 : w.cell? ⟨bx, 0, none⟩ = some (.iface tx (.pointer (some ⟨ox, 0, none⟩)))) (y0 : w.cell? ⟨bY, 0, none⟩ = some (.iface ty (.pointer (some ⟨oy, 0, none⟩)))) (x4 : w.cell? ⟨bx, 4, none⟩ = some (.int .i64 dx)) (y4 : w.cell? ⟨bY, 4, none⟩ = some (.int .i64 dy))
    (hxy : (tx = 111 ∧ ty = 111) ∨ (¬ tx = 111 ∧ ¬ ty = 111)) (hd : dy < dx) :
    Calls Tryz.prog 162 #[.slice (some ⟨g, o, none⟩) n c, .int .i64 i, .int .i64 j] w (fun e w' => e = .returned (.bool false) ∧ ∃ q, w' = w.drewN q) := by
  have hi' : (i : Int) < (n : Int) := by omega
  have hj' : (j : Int) < (n : Int) := by omega
  have h1 := fun t v w => assert_const (t := t) v w
  have hd' : decide (dx < dy) = false := by simp; omega
  have he' : decide (dx = dy) = false := by simp; omega
  have he2 : (dx == dy) = false := by simp; omega
  rcases hxy with ⟨hx, hy⟩ | ⟨hx, hy⟩
  · subst hx; subst hy
    go_enter Tryz.func162, Tryz.ntmps162
    go_wp2
    go_quiet (fail)
    go_wp2
    go_quiet (fail)
    go_wp2
    go_ret
    exact ⟨rfl, _, World.drewN_drewN _ _ _⟩
  · go_enter Tryz.func162, Tryz.ntmps162
    go_wp2
    go_quiet (fail)
    go_wp2
    go_quiet (fail)
    go_wp2
    go_ret
    exact ⟨rfl, _, World.drewN_drewN _ _ _⟩

theorem meth_ord {t : Nat} (ht : t = 102 ∨ t = 116) (b : Nat) (w : World) : (method 318 t (.pointer (some ⟨b, 0, none⟩)) "initializations/pub/initorder.order").run Tryz.prog w = .ok (158, .pointer (some ⟨b, 0, none⟩)) w := by
  rcases ht with rfl | rfl
  · exact meth_ord102 b w
  · exact meth_ord116 b w

set_option maxHeartbeats 1000000 in
set_option maxRecDepth 100000 in
theorem less_eq (w : World) (g o n c i j bx bY tx ty ox oy : Nat) (dx px py : Int) (hi : i < n) (hj : j < n)
    (ai : w.cell? ⟨g, o + i, none⟩ = some (.pointer (some ⟨bx, 0, none⟩))) (aj : w.cell? ⟨g, o + j, none⟩ = some (.pointer (some ⟨bY, 0, none⟩)))
    (x0 : w.cell? ⟨bx, 0, none⟩ = some (.iface tx (.pointer (some ⟨ox, 0, none⟩)))) (y0 : w.cell? ⟨bY, 0, none⟩ = some (.iface ty (.pointer (some ⟨oy, 0, none⟩)))) (x4 : w.cell? ⟨bx, 4, none⟩ = some (.int .i64 dx)) (y4 : w.cell? ⟨bY, 4, none⟩ = some (.int .i64 dx))
    (ux : w.cell? ⟨ox, 1, none⟩ = some (.int .u32 px)) (uy : w.cell? ⟨oy, 1, none⟩ = some (.int .u32 py)) (hxy : (tx = 111 ∧ ty = 111) ∨ ((tx = 102 ∨ tx = 116) ∧ (ty = 102 ∨ ty = 116))) :
    Calls Tryz.prog 162 #[.slice (some ⟨g, o, none⟩) n c, .int .i64 i, .int .i64 j] w (fun e w' => e = .returned (.bool (decide (px < py))) ∧ ∃ q, w' = w.drewN q) := by
  have hi' : (i : Int) < (n : Int) := by omega
  have hj' : (j : Int) < (n : Int) := by omega
  have h1 := fun t v w => assert_const (t := t) v w
  have hd' : decide (dx < dx) = false := by simp
  rcases hxy with ⟨hx, hy⟩ | ⟨hx, hy⟩
  · subst hx; subst hy
    have m1 := meth_ord111
    go_enter Tryz.func162, Tryz.ntmps162
    go_wp2
    go_quiet (fail)
    go_wp2
    go_quiet (first | (go_at_call 158; exact (order_any _ ox px (by simpa using ux)).mono (fun _ _ h => ⟨h.1, _, h.2⟩)) | (go_at_call 158; exact (order_any _ oy py (by simpa using uy)).mono (fun _ _ h => ⟨h.1, _, h.2⟩)))
    go_wp2
    go_ret
    exact ⟨rfl, _, World.drewN_drewN _ _ _⟩
  · have m1 := meth_ord hx
    have m2 := meth_ord hy
    have hx1 : ¬ tx = 111 := by omega
    have hy1 : ¬ ty = 111 := by omega
    clear hx hy
    go_enter Tryz.func162, Tryz.ntmps162
    go_wp2
    go_quiet (fail)
    go_wp2
    go_quiet (first | (go_at_call 158; exact (order_any _ ox px (by simpa using ux)).mono (fun _ _ h => ⟨h.1, _, h.2⟩)) | (go_at_call 158; exact (order_any _ oy py (by simpa using uy)).mono (fun _ _ h => ⟨h.1, _, h.2⟩)))
    go_wp2
    go_ret
    exact ⟨rfl, _, World.drewN_drewN _ _ _⟩
end Go.Proofs.YtelfaljidgfphaaGreat
