/-
  FnApart: of two packages' declarations in one package those of each one keep their order.
  Condition: the arguments are of bulk at most 1048576 (the second form of the statement).
-/
import Derived.Test.YtelfaljidgfphaaGreatM12
namespace Go.Proofs.YtelfaljidgfphaaGreat
open Go.RowKit Go.ChangeShapes Go.WideShapes Go.ChangeAt

section
open Go.Deep
variable {H : Type} {enc : TypeId × Value → H} {w : World} {base : Nat} {held : Bool}
set_option maxRecDepth 100000 in
/-- A list of bools that comes in. -/
theorem open_flags {n : Nat} {v : Value} {x : DataW H × List MemPlace} (h : DataW.trod enc Tryz.prog w base (fun _ => true) held n 23 [v] = some x) : ∃ l : List Bool, Bools w (fun _ => True) v l ∧ l.length + 1 ≤ Rows.uptoBulk x.1 := by
  rcases open_bools Tryz.underlying23 Tryz.underlying4 (by kernel_rfl) h with ⟨h1, rfl⟩ | ⟨a, len, cap, B, h1, _, hlc, _, rfl, hcell⟩
  · simp only [List.cons.injEq, and_true] at h1
    subst h1
    exact ⟨[], Arr.nil _ _ _, by simp [Rows.uptoBulk]⟩
  · simp only [List.cons.injEq, and_true] at h1
    subst h1
    have hl : ((List.range len).map B).length = len := by simp
    refine ⟨(List.range len).map B, ?_, ?_⟩
    · have hA : Arr w (fun _ => True) (.slice (some a) ((List.range len).map B).length cap) ((List.range len).map B).length 1 (((List.range len).map B).map Value.bool) := arr_of (by simp) (by omega) (by omega) (fun j u hj => by
        have hjl : j < len := by have := (List.getElem?_eq_some_iff.1 hj).1; simpa using this
        have := hcell j (by omega)
        rw [this]
        have e : (((List.range len).map B).map Value.bool)[j]? = some (Value.bool (B j)) := by rw [List.getElem?_map, List.getElem?_map, List.getElem?_range hjl]; rfl
        rw [e] at hj
        exact hj)
      rw [hl] at hA
      show Arr w _ _ ((List.range len).map B).length 1 _
      rw [hl]
      exact hA
    · rw [hl]
      unfold boolRow
      refine Nat.le_trans ?_ (slice_len_le _ _)
      simp
end
theorem row23 : Tryz.prog.readableRec 23 = true ∧ 23 < Tryz.prog.types.size := ⟨by kernel_rfl, of_decide_eq_true (by kernel_rfl)⟩

set_option maxRecDepth 100000 in
theorem fnApart_contract (H : Type) (enc : TypeId × Value → H) (W : World) (base : Nat) (args : Array Value) (ds gs : List (DataW H)) (before : List MemPlace)
    (hval : ∀ (j : Nat) t v, Tryz.f3.params[j]? = some t → args[j]? = some v → Value.okWide Tryz.prog W .any base t v)
    (hW : DataW.Whole enc Tryz.prog Tryz.f3.params.toList Rows.fnApartSpec.vars false W args.toList ds gs before) (hk : Rows.uptoSmall H (ds ++ gs) = true) :
    Calls Tryz.prog 3 args W fun e W' => ∃ v, e = .returned v ∧ Rows.fnApartSpec.post enc Tryz.prog Tryz.f3 false true false false W args v W' := by
  have hW' := hW
  obtain ⟨p, q, hA0, hV, rfl, hfz, hnd⟩ := hW
  have hA : DataW.TrodAll enc Tryz.prog W 0 (fun _ => true) true [22, 22, 23] args.toList ds p := hA0
  obtain ⟨v0, vs0, d0, ds0, p0, q0, hargs, rfl, rfl, h0, r0⟩ := trodAll_cons hA
  obtain ⟨v1, vs1, d1, ds1, p1, q1, rfl, rfl, rfl, h1, r1⟩ := trodAll_cons r0
  obtain ⟨v2, vs2, d2, ds2, p2, q2, rfl, rfl, rfl, h2, r2⟩ := trodAll_cons r1
  obtain ⟨rfl, rfl, rfl⟩ := trodAll_nil r2
  obtain rfl : args = #[v0, v1, v2] := by cases args; simp_all
  obtain ⟨a0, l0, c0, rfl⟩ := okWide_slice Tryz.underlying22 (hval 0 22 v0 rfl rfl)
  obtain ⟨n0, h0⟩ := h0
  obtain ⟨A0, c0, x0, he0, hx0, hwt0⟩ := open_items (v := .slice a0 l0 c0) h0
  replace hwt0 : wt x0 + 1 ≤ Rows.uptoBulk d0 := hwt0
  rw [he0] at hW' hval ⊢
  obtain ⟨a1, l1, c1, rfl⟩ := okWide_slice Tryz.underlying22 (hval 1 22 v1 rfl rfl)
  obtain ⟨n1, h1⟩ := h1
  obtain ⟨A1, c1, x1, he1, hx1, hwt1⟩ := open_items (v := .slice a1 l1 c1) h1
  replace hwt1 : wt x1 + 1 ≤ Rows.uptoBulk d1 := hwt1
  rw [he1] at hW' hval ⊢
  obtain ⟨a2, l2, c2, rfl⟩ := okWide_slice Tryz.underlying23 (hval 2 23 v2 rfl rfl)
  obtain ⟨n2, h2⟩ := h2
  obtain ⟨x2, hx2, hwt2⟩ := open_flags (v := .slice a2 l2 c2) h2
  replace hwt2 : x2.length + 1 ≤ Rows.uptoBulk d2 := hwt2
  obtain ⟨A2, c2, he2⟩ := hx2.val
  rw [he2] at hW' hval hx2 ⊢
  have hb := bound_of hk
  simp only [List.cons_append, List.nil_append, Rows.uptoBulkAll] at hb
  refine (fnApart_walk W (fun _ => True) A0 c0 x0 A1 c1 x1 A2 c2 x2 hx0 hx1 hx2 (by omega) (by omega) (by omega)).mono fun e W' h => ?_
  obtain ⟨rfl, hg⟩ := h
  obtain ⟨rfl, rfl⟩ := trodVars_none hV
  exact ⟨_, rfl, law_post rfl rfl rfl (fun t ht => by
    have : t = 22 ∨ t = 23 := by simpa [or_comm, or_left_comm] using (show t ∈ [22, 22, 23] from ht)
    rcases this with rfl | rfl
    all_goals first | exact row22 | exact row3 | exact row4 | exact row29 | exact row23) hW' hg⟩

set_option maxRecDepth 100000 in
theorem fnApart_lifted (os : Os) (started : os.Started) (H : Type) (enc : TypeId × Value → H) (F : Stop.Interp) :
    ReturnsInHanded {} Tryz.checked os 3 .any ((Rows.OpenSpec.upto Rows.fnApartSpec).pre6 enc Tryz.prog Tryz.f3 Rows.fnApartUptoRow.domain false) (((Rows.OpenSpec.upto Rows.fnApartSpec).at F).post enc Tryz.prog Tryz.f3 false true false false) := by
  refine returnsInHanded_of_cond (C := Tryz.checked) (s := Rows.OpenSpec.upto Rows.fnApartSpec) (k := Rows.uptoSmall) rfl own0 started (by kernel_rfl) Tryz.func3
    (OpenSpec.witness (enc := enc) (C := Tryz.checked) (s := Rows.OpenSpec.upto Rows.fnApartSpec) (k := Rows.uptoSmall) rfl false ⟨#[], #[.slice none 0 0, .slice none 0 0, .slice none 0 0], []⟩ 8 (by kernel_rfl) (by kernel_rfl) (by kernel_rfl)
      (x := ([.nil, .nil, .nil], [], [])) (by kernel_rfl) rfl (by kernel_rfl)) ?_
  intro W base args ds gs before hval hW _ hk _
  exact fnApart_contract H enc W base args ds gs before hval hW hk

set_option maxRecDepth 100000 in
theorem fnApart_over : Rows.fnApartUptoRow.holds Tryz.pinned (Rows.OpenSpec.upto Rows.fnApartSpec) :=
  OpenClaim.holds_of_cond 3 Tryz.f3 rfl rfl rfl rfl rfl rfl rfl ⟨rfl, rfl, rfl, rfl, rfl⟩ rfl rfl rfl rfl rfl (by kernel_rfl) Tryz.func3 (by kernel_rfl)
    (of_decide_eq_true (by kernel_rfl)) (by unfold Func.isWrapper; first | (rw [if_pos (by decide +kernel)]; kernel_rfl) | (rw [if_neg (by decide +kernel)]; exact ⟨rfl, rfl⟩))
    (fun os started H enc _ F => fnApart_lifted os started H enc F)

theorem fnApart_proved : Rows.FnApartUptoSaid := fnApart_over
end Go.Proofs.YtelfaljidgfphaaGreat
