/-
  How 'order' is found.
-/
import Derived.Test.YtelfaljidgfphaaGreatH1
namespace Go.Proofs.YtelfaljidgfphaaGreat
open Go.RowKit

theorem meth_of1 {t : TypeId} {name : String} {f : FuncId} {b : Bool} {st : Go.FieldStep} (h : ((Tryz.prog.info? t).map fun i => (i.methods.find? (·.name == name)).map fun m => (m.path, m.func)) = some (some (#[st], some (f, b)))) :
    ∃ i m, Tryz.prog.info? t = some i ∧ i.methods.find? (·.name == name) = some m ∧ m.path = #[st] ∧ m.func = some (f, b) := by
  cases hi : Tryz.prog.info? t with
  | none => rw [hi] at h; cases h
  | some i =>
    rw [hi] at h
    simp only [Option.map_some, Option.some.injEq] at h
    cases hm : i.methods.find? (·.name == name) with
    | none => rw [hm] at h; cases h
    | some m =>
      rw [hm] at h
      simp only [Option.map_some, Option.some.injEq, Prod.mk.injEq] at h
      exact ⟨i, m, rfl, hm, h.1, h.2⟩
theorem ord102 : ((Tryz.prog.info? 102).map fun i => (i.methods.find? (·.name == "initializations/pub/initorder.order")).map fun m => (m.path, m.func)) = some (some (#[⟨106, 0, true⟩], some (158, true))) := by kernel_rfl
theorem ord111 : ((Tryz.prog.info? 111).map fun i => (i.methods.find? (·.name == "initializations/pub/initorder.order")).map fun m => (m.path, m.func)) = some (some (#[⟨112, 0, true⟩], some (158, true))) := by kernel_rfl
theorem ord116 : ((Tryz.prog.info? 116).map fun i => (i.methods.find? (·.name == "initializations/pub/initorder.order")).map fun m => (m.path, m.func)) = some (some (#[⟨117, 0, true⟩], some (158, true))) := by kernel_rfl
theorem meth_ord102 (b : Nat) (w : World) : (method 318 102 (.pointer (some ⟨b, 0, none⟩)) "initializations/pub/initorder.order").run Tryz.prog w = .ok (158, .pointer (some ⟨b, 0, none⟩)) w := by kernel_rfl
theorem meth_ord111 (b : Nat) (w : World) : (method 318 111 (.pointer (some ⟨b, 0, none⟩)) "initializations/pub/initorder.order").run Tryz.prog w = .ok (158, .pointer (some ⟨b, 0, none⟩)) w := by kernel_rfl
theorem meth_ord116 (b : Nat) (w : World) : (method 318 116 (.pointer (some ⟨b, 0, none⟩)) "initializations/pub/initorder.order").run Tryz.prog w = .ok (158, .pointer (some ⟨b, 0, none⟩)) w := by kernel_rfl

set_option maxRecDepth 100000 in
/-- 'o.order()' -/
theorem order_any (w : World) (b : Nat) (x : Int) (hc : w.cell? ⟨b, 1, none⟩ = some (.int .u32 x)) : Calls Tryz.prog 158 #[.pointer (some ⟨b, 0, none⟩)] w (fun e w' => e = .returned (.int .u32 x) ∧ w' = w) := by
  go_enter Tryz.func158, Tryz.ntmps158
  go_wp2
  go_ret
  exact ⟨rfl, rfl⟩
end Go.Proofs.YtelfaljidgfphaaGreat
