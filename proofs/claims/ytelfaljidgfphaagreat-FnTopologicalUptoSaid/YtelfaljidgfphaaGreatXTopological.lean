/-
  FnTopological: each initializer is there once, behind those of all variables on which it depends.
  Condition: the arguments are of bulk at most 1048576 (the second form of the statement).
-/
import Derived.Test.YtelfaljidgfphaaGreatM11
namespace Go.Proofs.YtelfaljidgfphaaGreat
open Go.RowKit Go.ChangeShapes Go.WideShapes Go.ChangeAt

set_option maxRecDepth 100000 in
theorem fnTopological_contract (H : Type) (enc : TypeId × Value → H) (W : World) (base : Nat) (args : Array Value) (ds gs : List (DataW H)) (before : List MemPlace)
    (hval : ∀ (j : Nat) t v, Tryz.f13.params[j]? = some t → args[j]? = some v → Value.okWide Tryz.prog W .any base t v)
    (hW : DataW.Whole enc Tryz.prog Tryz.f13.params.toList Rows.fnTopologicalSpec.vars false W args.toList ds gs before) (hk : Rows.uptoSmall H (ds ++ gs) = true) :
    Calls Tryz.prog 13 args W fun e W' => ∃ v, e = .returned v ∧ Rows.fnTopologicalSpec.post enc Tryz.prog Tryz.f13 false true false false W args v W' := by
  have hW' := hW
  obtain ⟨p, q, hA0, hV, rfl, hfz, hnd⟩ := hW
  have hA : DataW.TrodAll enc Tryz.prog W 0 (fun _ => true) true [22] args.toList ds p := hA0
  obtain ⟨v0, vs0, d0, ds0, p0, q0, hargs, rfl, rfl, h0, r0⟩ := trodAll_cons hA
  obtain ⟨rfl, rfl, rfl⟩ := trodAll_nil r0
  obtain rfl : args = #[v0] := by cases args; simp_all
  obtain ⟨a0, l0, c0, rfl⟩ := okWide_slice Tryz.underlying22 (hval 0 22 v0 rfl rfl)
  obtain ⟨n0, h0⟩ := h0
  obtain ⟨A, c, p, he, hp, hwt⟩ := open_items (v := .slice a0 l0 c0) h0
  replace hwt : wt p + 1 ≤ Rows.uptoBulk d0 := hwt
  rw [he] at hW' hval ⊢
  have hb := bound_of hk
  simp only [List.cons_append, List.nil_append, Rows.uptoBulkAll] at hb
  refine (fnTopological_walk W (fun _ => True) A c p hp (by omega)).mono fun e W' h => ?_
  obtain ⟨rfl, hg⟩ := h
  obtain ⟨rfl, rfl⟩ := trodVars_none hV
  exact ⟨_, rfl, law_post rfl rfl rfl (fun t ht => by
    have : t = 22 := by simpa using (show t ∈ [22] from ht)
    subst this; exact row22) hW' hg⟩

set_option maxRecDepth 100000 in
theorem fnTopological_lifted (os : Os) (started : os.Started) (H : Type) (enc : TypeId × Value → H) (F : Stop.Interp) :
    ReturnsInHanded {} Tryz.checked os 13 .any ((Rows.OpenSpec.upto Rows.fnTopologicalSpec).pre6 enc Tryz.prog Tryz.f13 Rows.fnTopologicalUptoRow.domain false) (((Rows.OpenSpec.upto Rows.fnTopologicalSpec).at F).post enc Tryz.prog Tryz.f13 false true false false) := by
  refine returnsInHanded_of_cond (C := Tryz.checked) (s := Rows.OpenSpec.upto Rows.fnTopologicalSpec) (k := Rows.uptoSmall) rfl own0 started (by kernel_rfl) Tryz.func13
    (OpenSpec.witness (enc := enc) (C := Tryz.checked) (s := Rows.OpenSpec.upto Rows.fnTopologicalSpec) (k := Rows.uptoSmall) rfl false ⟨#[], #[.slice none 0 0], []⟩ 8 (by kernel_rfl) (by kernel_rfl) (by kernel_rfl)
      (x := ([.nil], [], [])) (by kernel_rfl) rfl (by kernel_rfl)) ?_
  intro W base args ds gs before hval hW _ hk _
  exact fnTopological_contract H enc W base args ds gs before hval hW hk

set_option maxRecDepth 100000 in
theorem fnTopological_over : Rows.fnTopologicalUptoRow.holds Tryz.pinned (Rows.OpenSpec.upto Rows.fnTopologicalSpec) :=
  OpenClaim.holds_of_cond 13 Tryz.f13 rfl rfl rfl rfl rfl rfl rfl ⟨rfl, rfl, rfl, rfl, rfl⟩ rfl rfl rfl rfl rfl (by kernel_rfl) Tryz.func13 (by kernel_rfl)
    (of_decide_eq_true (by kernel_rfl)) (by unfold Func.isWrapper; first | (rw [if_pos (by decide +kernel)]; kernel_rfl) | (rw [if_neg (by decide +kernel)]; exact ⟨rfl, rfl⟩))
    (fun os started H enc _ F => fnTopological_lifted os started H enc F)

theorem fnTopological_proved : Rows.FnTopologicalUptoSaid := fnTopological_over
end Go.Proofs.YtelfaljidgfphaaGreat
