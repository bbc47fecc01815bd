/-
  FnLast: a declaration behind all others, to which nothing refers, does not change the order of the others.
  Condition: the arguments are of bulk at most 1048576 (the second form of the statement).
-/
import Derived.Test.YtelfaljidgfphaaGreatM8
namespace Go.Proofs.YtelfaljidgfphaaGreat
open Go.RowKit Go.ChangeShapes Go.WideShapes Go.ChangeAt

set_option maxRecDepth 100000 in
theorem fnLast_contract (H : Type) (enc : TypeId × Value → H) (W : World) (base : Nat) (args : Array Value) (ds gs : List (DataW H)) (before : List MemPlace)
    (hval : ∀ (j : Nat) t v, Tryz.f7.params[j]? = some t → args[j]? = some v → Value.okWide Tryz.prog W .any base t v)
    (hW : DataW.Whole enc Tryz.prog Tryz.f7.params.toList Rows.fnLastSpec.vars false W args.toList ds gs before) (hk : Rows.uptoSmall H (ds ++ gs) = true) :
    Calls Tryz.prog 7 args W fun e W' => ∃ v, e = .returned v ∧ Rows.fnLastSpec.post enc Tryz.prog Tryz.f7 false true false false W args v W' := by
  have hW' := hW
  obtain ⟨p, q, hA0, hV, rfl, hfz, hnd⟩ := hW
  have hA : DataW.TrodAll enc Tryz.prog W 0 (fun _ => true) true [22, 3, 3, 29] args.toList ds p := hA0
  obtain ⟨v0, vs0, d0, ds0, p0, q0, hargs, rfl, rfl, h0, r0⟩ := trodAll_cons hA
  obtain ⟨v1, vs1, d1, ds1, p1, q1, rfl, rfl, rfl, h1, r1⟩ := trodAll_cons r0
  obtain ⟨v2, vs2, d2, ds2, p2, q2, rfl, rfl, rfl, h2, r2⟩ := trodAll_cons r1
  obtain ⟨v3, vs3, d3, ds3, p3, q3, rfl, rfl, rfl, h3, r3⟩ := trodAll_cons r2
  obtain ⟨rfl, rfl, rfl⟩ := trodAll_nil r3
  obtain rfl : args = #[v0, v1, v2, v3] := by cases args; simp_all
  obtain ⟨a0, l0, c0, rfl⟩ := okWide_slice Tryz.underlying22 (hval 0 22 v0 rfl rfl)
  obtain ⟨n0, h0⟩ := h0
  obtain ⟨A0, c0, x0, he0, hx0, hwt0⟩ := open_items (v := .slice a0 l0 c0) h0
  replace hwt0 : wt x0 + 1 ≤ Rows.uptoBulk d0 := hwt0
  rw [he0] at hW' hval ⊢
  obtain ⟨x1, rfl, rfl, rfl, -⟩ := open_int Tryz.underlying3 (hval 1 3 v1 rfl rfl) h1
  obtain ⟨x2, rfl, rfl, rfl, -⟩ := open_int Tryz.underlying3 (hval 2 3 v2 rfl rfl) h2
  obtain ⟨a3, l3, c3, rfl⟩ := okWide_slice Tryz.underlying29 (hval 3 29 v3 rfl rfl)
  obtain ⟨n3, h3⟩ := h3
  obtain ⟨x3, hx3, hwt3⟩ := open_ref (v := .slice a3 l3 c3) h3
  replace hwt3 : x3.length + 1 ≤ Rows.uptoBulk d3 := hwt3
  obtain ⟨A3, c3, he3⟩ := hx3.val
  rw [he3] at hW' hval hx3 ⊢
  have hb := bound_of hk
  simp only [List.cons_append, List.nil_append, Rows.uptoBulkAll] at hb
  refine (fnLast_walk W (fun _ => True) A0 c0 x0 x1 x2 A3 c3 x3 hx0 hx3 (by omega) (by omega)).mono fun e W' h => ?_
  obtain ⟨rfl, hg⟩ := h
  obtain ⟨rfl, rfl⟩ := trodVars_none hV
  exact ⟨_, rfl, law_post rfl rfl rfl (fun t ht => by
    have : t = 3 ∨ t = 22 ∨ t = 29 := by simpa [or_comm, or_left_comm] using (show t ∈ [22, 3, 3, 29] from ht)
    rcases this with rfl | rfl | rfl
    all_goals first | exact row22 | exact row3 | exact row4 | exact row29) hW' hg⟩

set_option maxRecDepth 100000 in
theorem fnLast_lifted (os : Os) (started : os.Started) (H : Type) (enc : TypeId × Value → H) (F : Stop.Interp) :
    ReturnsInHanded {} Tryz.checked os 7 .any ((Rows.OpenSpec.upto Rows.fnLastSpec).pre6 enc Tryz.prog Tryz.f7 Rows.fnLastUptoRow.domain false) (((Rows.OpenSpec.upto Rows.fnLastSpec).at F).post enc Tryz.prog Tryz.f7 false true false false) := by
  refine returnsInHanded_of_cond (C := Tryz.checked) (s := Rows.OpenSpec.upto Rows.fnLastSpec) (k := Rows.uptoSmall) rfl own0 started (by kernel_rfl) Tryz.func7
    (OpenSpec.witness (enc := enc) (C := Tryz.checked) (s := Rows.OpenSpec.upto Rows.fnLastSpec) (k := Rows.uptoSmall) rfl false ⟨#[], #[.slice none 0 0, .int .i64 0, .int .i64 0, .slice none 0 0], []⟩ 8 (by kernel_rfl) (by kernel_rfl) (by kernel_rfl)
      (x := ([.nil, .lit (.int .i64 0), .lit (.int .i64 0), .nil], [], [])) (by kernel_rfl) rfl (by kernel_rfl)) ?_
  intro W base args ds gs before hval hW _ hk _
  exact fnLast_contract H enc W base args ds gs before hval hW hk

set_option maxRecDepth 100000 in
theorem fnLast_over : Rows.fnLastUptoRow.holds Tryz.pinned (Rows.OpenSpec.upto Rows.fnLastSpec) :=
  OpenClaim.holds_of_cond 7 Tryz.f7 rfl rfl rfl rfl rfl rfl rfl ⟨rfl, rfl, rfl, rfl, rfl⟩ rfl rfl rfl rfl rfl (by kernel_rfl) Tryz.func7 (by kernel_rfl)
    (of_decide_eq_true (by kernel_rfl)) (by unfold Func.isWrapper; first | (rw [if_pos (by decide +kernel)]; kernel_rfl) | (rw [if_neg (by decide +kernel)]; exact ⟨rfl, rfl⟩))
    (fun os started H enc _ F => fnLast_lifted os started H enc F)

theorem fnLast_proved : Rows.FnLastUptoSaid := fnLast_over
end Go.Proofs.YtelfaljidgfphaaGreat
