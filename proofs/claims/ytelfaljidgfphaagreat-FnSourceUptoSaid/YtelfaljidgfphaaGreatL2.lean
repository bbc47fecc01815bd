/-
  A law's end lifted: true, and what came in reads as before.
-/
import Derived.Test.YtelfaljidgfphaaGreatL1
import Derived.Carry
import Derived.WideKeyArgs
namespace Go.Proofs.YtelfaljidgfphaaGreat
open Go.RowKit Go.ChangeShapes Go.WideShapes Go.Deep

theorem post_of_gr {H : Type} {enc : TypeId × Value → H} {P : Program} {f : Func} {s : ChangeSpec} {apart fresh handsOn again : Bool} {W W' : World} {args : Array Value} {v : Value} {ds gs : List (DataW H)} {before pa pv : List MemPlace}
    (hW : DataW.Whole enc P f.params.toList s.vars apart W args.toList ds gs before)
    (hres : ∀ (b : Nat) (sp : Nat → Bool) (hd : Bool), DataW.TrodAll enc P W' b sp hd f.resultTypes.toList (v.resultList f.resultTypes.size) (s.fn H (ds ++ gs)).results [])
    (hargs : ∀ sp : Nat → Bool, (∀ p ∈ before, sp p.block = true) → DataW.TrodAll enc P W' 0 sp true f.params.toList args.toList (s.fn H (ds ++ gs)).args pa)
    (hvars : ∀ sp : Nat → Bool, (∀ p ∈ before, sp p.block = true) → DataW.TrodVars enc P W' sp s.vars (s.fn H (ds ++ gs)).vars pv)
    (hps : before = pa ++ pv) (hg : Gr W W')
    (hok : ∀ (j : Nat) (t : TypeId) (r : Value), f.resultTypes[j]? = some t → (v.resultList f.resultTypes.size)[j]? = some r → Value.okWide P W' .any 0 t r) :
    s.post enc P f apart fresh handsOn again W args v W' := by
  have hold : ∀ p ∈ before, (fun b => decide (b < W.heap.size)) p.block = true := fun p hp => by simpa using hW.lt p hp
  have hlt : ∀ p ∈ before, p.block < W.heap.size := fun p hp => hW.lt p hp
  refine ⟨ds, gs, before, [], pa, pv, hW, hres _ _ _, hargs _ hold, hvars _ hold, World.keptBut_mono (fun p hp => ⟨hp, ?_⟩) (hg.kept (· ∈ before)), fun _ => ?_⟩
  · rw [hps, List.mem_append] at hp
    exact Or.inr hp
  · obtain ⟨_, _, _, _, _, hz, hn⟩ := hW
    refine ⟨hok, _, _, ([] ++ pa) ++ pv, ⟨[] ++ pa, pv, trodAll_append (hargs _ (fun _ _ => rfl)) (hres _ _ _), hvars _ (fun _ _ => rfl), rfl, ?_, ?_⟩, ?_⟩
    · intro b off hp
      have hb : MemPlace.cell b off ∈ before := by rw [hps]; simpa using hp
      rw [hg.frozen (by exact hlt _ hb)]
      exact hz b off hb
    · intro ha
      have := hn ha
      rw [hps] at this
      simpa using this
    · intro p hp _
      rw [hps]
      simpa using hp

set_option maxRecDepth 100000 in
theorem okWide_true (W' : World) {f : Func} (hf : f.resultTypes = #[4]) : ∀ (j : Nat) (t : TypeId) (r : Value), f.resultTypes[j]? = some t → ((Value.bool true).resultList f.resultTypes.size)[j]? = some r → Value.okWide Tryz.prog W' .any 0 t r :=
  ok_one hf rfl (okWide_bool_mk Tryz.underlying4 _)

theorem trodAll_stays {H : Type} {enc : TypeId × Value → H} {P : Program} (hl : laidOutB P = true) {W W' : World} (hg : Gr W W') : ∀ {ts : List TypeId} {vs : List Value} {ds : List (DataW H)} {ps : List MemPlace}, (∀ t ∈ ts, P.readableRec t = true ∧ t < P.types.size) →
    DataW.TrodAll enc P W 0 (fun _ => true) true ts vs ds ps → (∀ x ∈ ps, x.block < W.heap.size) → ∀ sp : Nat → Bool, (∀ x ∈ ps, sp x.block = true) → DataW.TrodAll enc P W' 0 sp true ts vs ds ps
  | [], vs, ds, ps, _, h, _, sp, _ => by
    obtain ⟨rfl, rfl, rfl⟩ := trodAll_nil h
    exact trodAll_mk0
  | t :: ts, vs, ds, ps, ht, h, hlt, sp, hsp => by
    obtain ⟨v, vs', d, ds', p, q, rfl, rfl, rfl, h1, h2⟩ := trodAll_cons h
    obtain ⟨hr, hrow⟩ := ht t (by simp)
    refine trodAll_cons_mk (WideElems.Trod_stays hl hr hrow h1 (fun x hx => hg.below.same (hlt x (by simp [hx]))) (fun x hx => hsp x (by simp [hx]))) ?_
    exact trodAll_stays hl hg (fun t ht' => ht t (by simp [ht'])) h2 (fun x hx => hlt x (by simp [hx])) sp (fun x hx => hsp x (by simp [hx]))

theorem laidOut : laidOutB Tryz.prog = true := by kernel_rfl
theorem own0 : ownKnob Tryz.prog.godebug = none := by kernel_rfl
theorem row22 : Tryz.prog.readableRec 22 = true ∧ 22 < Tryz.prog.types.size := ⟨by kernel_rfl, of_decide_eq_true (by kernel_rfl)⟩
theorem row3 : Tryz.prog.readableRec 3 = true ∧ 3 < Tryz.prog.types.size := ⟨by kernel_rfl, of_decide_eq_true (by kernel_rfl)⟩
theorem row4 : Tryz.prog.readableRec 4 = true ∧ 4 < Tryz.prog.types.size := ⟨by kernel_rfl, of_decide_eq_true (by kernel_rfl)⟩
theorem row29 : Tryz.prog.readableRec 29 = true ∧ 29 < Tryz.prog.types.size := ⟨by kernel_rfl, of_decide_eq_true (by kernel_rfl)⟩

set_option maxRecDepth 100000 in
/-- A law that returned true, whose arguments stand as they stood. -/
theorem law_post {H : Type} {enc : TypeId × Value → H} {f : Func} {s : ChangeSpec} {apart fresh handsOn again : Bool} {W W' : World} {args : Array Value} {ds gs : List (DataW H)} {before : List MemPlace}
    (hf : f.resultTypes = #[4]) (hv : s.vars = []) (hs : s.fn H (ds ++ gs) = { results := [.lit (.bool true)], args := ds }) (hrows : ∀ t ∈ f.params.toList, Tryz.prog.readableRec t = true ∧ t < Tryz.prog.types.size)
    (hW : DataW.Whole enc Tryz.prog f.params.toList s.vars apart W args.toList ds gs before) (hg : Gr W W') : s.post enc Tryz.prog f apart fresh handsOn again W args (.bool true) W' := by
  have hlt := fun p hp => hW.lt (p := p) hp
  have hW' := hW
  obtain ⟨p, q, hA0, hV, rfl, hfz, hnd⟩ := hW
  have hA : DataW.TrodAll enc Tryz.prog W 0 (fun _ => true) true f.params.toList args.toList ds p := hA0
  rw [hv] at hV
  obtain ⟨rfl, rfl⟩ := trodVars_none hV
  refine post_of_gr (pa := p) (pv := []) hW' (fun b sp hd => ?_) (fun sp hsp => ?_) (fun sp _ => ?_) rfl hg (okWide_true W' hf)
  · rw [hs, hf]
    exact trodAll_cons_mk (shut_bool Tryz.underlying4 _) trodAll_mk0
  · rw [hs]
    exact trodAll_stays laidOut hg hrows hA (fun x hx => hlt x (by simpa using hx)) sp (fun x hx => hsp x (by simpa using hx))
  · rw [hv, hs]
    rfl

theorem bound_of {H : Type} {l : List (DataW H)} (hk : Rows.uptoSmall H l = true) : Rows.uptoBulkAll l ≤ 1048576 := of_decide_eq_true hk
end Go.Proofs.YtelfaljidgfphaaGreat
