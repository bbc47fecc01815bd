/-
  FnShown: variables without an expression, functions and constants are not in the list, and functions and constants to which nothing refers change nothing.
  Condition: the arguments are of bulk at most 1048576 (the second form of the statement).
-/
import Derived.Test.YtelfaljidgfphaaGreatM9
namespace Go.Proofs.YtelfaljidgfphaaGreat
open Go.RowKit Go.ChangeShapes Go.WideShapes Go.ChangeAt

set_option maxRecDepth 100000 in
theorem fnShown_contract (H : Type) (enc : TypeId × Value → H) (W : World) (base : Nat) (args : Array Value) (ds gs : List (DataW H)) (before : List MemPlace)
    (hval : ∀ (j : Nat) t v, Tryz.f11.params[j]? = some t → args[j]? = some v → Value.okWide Tryz.prog W .any base t v)
    (hW : DataW.Whole enc Tryz.prog Tryz.f11.params.toList Rows.fnShownSpec.vars false W args.toList ds gs before) (hk : Rows.uptoSmall H (ds ++ gs) = true) :
    Calls Tryz.prog 11 args W fun e W' => ∃ v, e = .returned v ∧ Rows.fnShownSpec.post enc Tryz.prog Tryz.f11 false true false false W args v W' := by
  have hW' := hW
  obtain ⟨p, q, hA0, hV, rfl, hfz, hnd⟩ := hW
  have hA : DataW.TrodAll enc Tryz.prog W 0 (fun _ => true) true [22, 4, 29] args.toList ds p := hA0
  obtain ⟨v0, vs0, d0, ds0, p0, q0, hargs, rfl, rfl, h0, r0⟩ := trodAll_cons hA
  obtain ⟨v1, vs1, d1, ds1, p1, q1, rfl, rfl, rfl, h1, r1⟩ := trodAll_cons r0
  obtain ⟨v2, vs2, d2, ds2, p2, q2, rfl, rfl, rfl, h2, r2⟩ := trodAll_cons r1
  obtain ⟨rfl, rfl, rfl⟩ := trodAll_nil r2
  obtain rfl : args = #[v0, v1, v2] := by cases args; simp_all
  obtain ⟨a0, l0, c0, rfl⟩ := okWide_slice Tryz.underlying22 (hval 0 22 v0 rfl rfl)
  obtain ⟨n0, h0⟩ := h0
  obtain ⟨A0, c0, x0, he0, hx0, hwt0⟩ := open_items (v := .slice a0 l0 c0) h0
  replace hwt0 : wt x0 + 1 ≤ Rows.uptoBulk d0 := hwt0
  rw [he0] at hW' hval ⊢
  obtain ⟨x1, rfl, rfl, rfl⟩ := open_bool Tryz.underlying4 (hval 1 4 v1 rfl rfl) h1
  obtain ⟨a2, l2, c2, rfl⟩ := okWide_slice Tryz.underlying29 (hval 2 29 v2 rfl rfl)
  obtain ⟨n2, h2⟩ := h2
  obtain ⟨x2, hx2, hwt2⟩ := open_ref (v := .slice a2 l2 c2) h2
  replace hwt2 : x2.length + 1 ≤ Rows.uptoBulk d2 := hwt2
  obtain ⟨A2, c2, he2⟩ := hx2.val
  rw [he2] at hW' hval hx2 ⊢
  have hb := bound_of hk
  simp only [List.cons_append, List.nil_append, Rows.uptoBulkAll] at hb
  refine (fnShown_walk W (fun _ => True) A0 c0 x0 x1 A2 c2 x2 hx0 hx2 (by omega) (by omega)).mono fun e W' h => ?_
  obtain ⟨rfl, hg⟩ := h
  obtain ⟨rfl, rfl⟩ := trodVars_none hV
  exact ⟨_, rfl, law_post rfl rfl rfl (fun t ht => by
    have : t = 4 ∨ t = 22 ∨ t = 29 := by simpa [or_comm, or_left_comm] using (show t ∈ [22, 4, 29] from ht)
    rcases this with rfl | rfl | rfl
    all_goals first | exact row22 | exact row3 | exact row4 | exact row29) hW' hg⟩

set_option maxRecDepth 100000 in
theorem fnShown_lifted (os : Os) (started : os.Started) (H : Type) (enc : TypeId × Value → H) (F : Stop.Interp) :
    ReturnsInHanded {} Tryz.checked os 11 .any ((Rows.OpenSpec.upto Rows.fnShownSpec).pre6 enc Tryz.prog Tryz.f11 Rows.fnShownUptoRow.domain false) (((Rows.OpenSpec.upto Rows.fnShownSpec).at F).post enc Tryz.prog Tryz.f11 false true false false) := by
  refine returnsInHanded_of_cond (C := Tryz.checked) (s := Rows.OpenSpec.upto Rows.fnShownSpec) (k := Rows.uptoSmall) rfl own0 started (by kernel_rfl) Tryz.func11
    (OpenSpec.witness (enc := enc) (C := Tryz.checked) (s := Rows.OpenSpec.upto Rows.fnShownSpec) (k := Rows.uptoSmall) rfl false ⟨#[], #[.slice none 0 0, .bool false, .slice none 0 0], []⟩ 8 (by kernel_rfl) (by kernel_rfl) (by kernel_rfl)
      (x := ([.nil, .lit (.bool false), .nil], [], [])) (by kernel_rfl) rfl (by kernel_rfl)) ?_
  intro W base args ds gs before hval hW _ hk _
  exact fnShown_contract H enc W base args ds gs before hval hW hk

set_option maxRecDepth 100000 in
theorem fnShown_over : Rows.fnShownUptoRow.holds Tryz.pinned (Rows.OpenSpec.upto Rows.fnShownSpec) :=
  OpenClaim.holds_of_cond 11 Tryz.f11 rfl rfl rfl rfl rfl rfl rfl ⟨rfl, rfl, rfl, rfl, rfl⟩ rfl rfl rfl rfl rfl (by kernel_rfl) Tryz.func11 (by kernel_rfl)
    (of_decide_eq_true (by kernel_rfl)) (by unfold Func.isWrapper; first | (rw [if_pos (by decide +kernel)]; kernel_rfl) | (rw [if_neg (by decide +kernel)]; exact ⟨rfl, rfl⟩))
    (fun os started H enc _ F => fnShown_lifted os started H enc F)

theorem fnShown_proved : Rows.FnShownUptoSaid := fnShown_over
end Go.Proofs.YtelfaljidgfphaaGreat
