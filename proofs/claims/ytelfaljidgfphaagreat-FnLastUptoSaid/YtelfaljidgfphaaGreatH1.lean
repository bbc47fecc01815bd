/-
  The queue's methods.
-/
import Derived.Test.YtelfaljidgfphaaGreatJ1
import Derived.Test.YtelfaljidgfphaaGreatQ1
namespace Go.Proofs.YtelfaljidgfphaaGreat
open Go.RowKit


theorem meth_of {t : TypeId} {name : String} {f : FuncId} {b : Bool} (h : ((Tryz.prog.info? t).map fun i => (i.methods.find? (·.name == name)).map fun m => (m.path.size, m.func)) = some (some (0, some (f, b)))) :
    ∃ i m, Tryz.prog.info? t = some i ∧ i.methods.find? (·.name == name) = some m ∧ m.path = #[] ∧ m.func = some (f, b) := by
  cases hi : Tryz.prog.info? t with
  | none => rw [hi] at h; cases h
  | some i =>
    rw [hi] at h
    simp only [Option.map_some, Option.some.injEq] at h
    cases hm : i.methods.find? (·.name == name) with
    | none => rw [hm] at h; cases h
    | some m =>
      rw [hm] at h
      simp only [Option.map_some, Option.some.injEq, Prod.mk.injEq] at h
      exact ⟨i, m, rfl, hm, Array.eq_empty_of_size_eq_zero h.1, h.2⟩

theorem nilChk (t : TypeId) (a : Addr) (s s' : String) (w : World) : (Builtin.ssaWrapNilChk_ #[t] t #[.pointer (some a), strVal s, strVal s']).run Tryz.prog w = .ok (.pointer (some a)) w := rfl

theorem load_125 (w : World) (pq : Nat) (v : Value) (hq : w.cell? ⟨pq, 0, none⟩ = some v) : (loadVar 125 ⟨pq, 0, none⟩).run Tryz.prog w = .ok v w := by
  simp [loadVar, isAgg, run_underlying Tryz.underlying125, hq]

set_option maxRecDepth 100000 in
/-- A method with a value receiver, found through a pointer to the queue. -/
theorem method_val {name : String} {f : FuncId} (hc : ((Tryz.prog.info? 127).map fun i => (i.methods.find? (·.name == name)).map fun m => (m.path.size, m.func)) = some (some (0, some (f, false)))) (w : World) (pq : Nat) (v : Value) (hq : w.cell? ⟨pq, 0, none⟩ = some v) (fuel : Nat) :
    (method (fuel + 1) 127 (.pointer (some ⟨pq, 0, none⟩)) name).run Tryz.prog w = .ok (f, v) w := by
  obtain ⟨i, m, hi, hm, hp, hf⟩ := meth_of hc
  rw [method]
  have hg : (Place.get 127 (Place.val (.pointer (some ⟨pq, 0, none⟩)))).run Tryz.prog w = .ok (.pointer (some ⟨pq, 0, none⟩)) w := rfl
  have ha : (asAddr (.pointer (some ⟨pq, 0, none⟩))).run Tryz.prog w = .ok ⟨pq, 0, none⟩ w := rfl
  simp [typeInfo, hi, hm, hp, hf, follow, receiverAt, run_underlying Tryz.underlying127]
  simp only [hg, Result.andThen_ok, nilChk, ha, load_125 w pq v hq]
set_option maxRecDepth 100000 in
/-- A method with a pointer receiver. -/
theorem method_ptr {name : String} {f : FuncId} (hc : ((Tryz.prog.info? 127).map fun i => (i.methods.find? (·.name == name)).map fun m => (m.path.size, m.func)) = some (some (0, some (f, true)))) (w : World) (pq : Nat) (fuel : Nat) :
    (method (fuel + 1) 127 (.pointer (some ⟨pq, 0, none⟩)) name).run Tryz.prog w = .ok (f, .pointer (some ⟨pq, 0, none⟩)) w := by
  obtain ⟨i, m, hi, hm, hp, hf⟩ := meth_of hc
  rw [method]
  have hg : (Place.get 127 (Place.val (.pointer (some ⟨pq, 0, none⟩)))).run Tryz.prog w = .ok (.pointer (some ⟨pq, 0, none⟩)) w := rfl
  simp [typeInfo, hi, hm, hp, hf, follow, receiverAt, run_underlying Tryz.underlying127]
  simp only [hg, Result.andThen_ok]
theorem meth_len (w : World) (pq : Nat) (v : Value) (hq : w.cell? ⟨pq, 0, none⟩ = some v) (fuel : Nat) : (method (fuel + 1) 127 (.pointer (some ⟨pq, 0, none⟩)) "Len").run Tryz.prog w = .ok (161, v) w := method_val (by kernel_rfl) w pq v hq fuel
theorem meth_less (w : World) (pq : Nat) (v : Value) (hq : w.cell? ⟨pq, 0, none⟩ = some v) (fuel : Nat) : (method (fuel + 1) 127 (.pointer (some ⟨pq, 0, none⟩)) "Less").run Tryz.prog w = .ok (162, v) w := method_val (by kernel_rfl) w pq v hq fuel
theorem meth_swap (w : World) (pq : Nat) (v : Value) (hq : w.cell? ⟨pq, 0, none⟩ = some v) (fuel : Nat) : (method (fuel + 1) 127 (.pointer (some ⟨pq, 0, none⟩)) "Swap").run Tryz.prog w = .ok (163, v) w := method_val (by kernel_rfl) w pq v hq fuel
theorem meth_pop (w : World) (pq : Nat) (fuel : Nat) : (method (fuel + 1) 127 (.pointer (some ⟨pq, 0, none⟩)) "Pop").run Tryz.prog w = .ok (164, .pointer (some ⟨pq, 0, none⟩)) w := method_ptr (by kernel_rfl) w pq fuel
end Go.Proofs.YtelfaljidgfphaaGreat
