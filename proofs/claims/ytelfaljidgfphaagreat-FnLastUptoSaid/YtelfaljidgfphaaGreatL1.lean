/-
  From an argument's reading to the declarations that the walks speak of; and back.
-/
import Derived.Test.YtelfaljidgfphaaGreatF5
import Derived.ProofKit
import Derived.OpenShut
import Derived.JoinedCond
import Derived.Deep.Slices
import Derived.Deep.Grids
import Derived.Carry
import Derived.WideKeyArgs
namespace Go.Proofs.YtelfaljidgfphaaGreat
open Go.RowKit Go.ChangeShapes Go.WideShapes Go.Deep

theorem spot_of_cell {w : World} {a : Addr} {v : Value} (h : w.cell? a = some v) : a.spot = none := by
  unfold World.cell? at h
  split at h
  · cases hs : a.spot with
    | none => rfl
    | some s => simp [hs] at h
  · simp at h

theorem add_lit' (b o i : Nat) : (⟨b, o, none⟩ : Addr).add i = ⟨b, o + i, none⟩ := by
  unfold Addr.add
  by_cases h : i = 0 <;> simp [h]

section
variable {H : Type} {enc : TypeId × Value → H} {w : World} {base : Nat} {held : Bool}

/-- A slice whose cells are there. -/
theorem arr_of {a : Addr} {n c sz : Nat} {cs : List Value} (hl : cs.length = n * sz) (hc : n ≤ c) (hz : 0 < sz) (h : ∀ j u, cs[j]? = some u → w.cell? (a.add j) = some u) : Arr w (fun _ => True) (.slice (some a) n c) n sz cs := by
  refine ⟨hl, _, _, rfl, hc, ?_⟩
  by_cases h0 : n = 0
  · exact .inl h0
  · right
    have hpos : 0 < cs.length := by rw [hl]; exact Nat.mul_pos (by omega) hz
    have h1 := h 0 cs[0] (by simp [hpos])
    obtain ⟨b, o, sp⟩ := a
    have hs := spot_of_cell h1
    have hs' : sp = none := by
      unfold Addr.add at hs
      simpa using hs
    subst hs'
    refine ⟨b, o, rfl, trivial, ?_, fun j u hj => by have := h j u hj; rwa [add_lit'] at this⟩
    have := World.block_lt_of_cell? w _ h1
    simpa [add_lit'] using this

theorem one_le_bulk (d : DataW H) : 1 ≤ Rows.uptoBulk d := by
  cases d with
  | lit l => cases l <;> simp [Rows.uptoBulk]
  | nil => simp [Rows.uptoBulk]
  | ptr d => simp [Rows.uptoBulk]
  | slice elems spare => simp [Rows.uptoBulk]
  | agg parts => simp [Rows.uptoBulk]
  | iface t d => simp [Rows.uptoBulk]
  | map entries => simp [Rows.uptoBulk]
  | held h => simp [Rows.uptoBulk]
theorem len_le_bulk : ∀ l : List (DataW H), l.length ≤ Rows.uptoBulkAll l
  | [] => by simp [Rows.uptoBulkAll]
  | x :: r => by
    have h1 := one_le_bulk x
    have h2 := len_le_bulk r
    simp only [Rows.uptoBulkAll, List.length_cons]; omega
theorem slice_len_le (l r : List (DataW H)) : l.length + 1 ≤ Rows.uptoBulk (.slice l r) := by
  have := len_le_bulk l
  simp only [Rows.uptoBulk]; omega

theorem open_ref {n : Nat} {v : Value} {x : DataW H × List MemPlace} (h : DataW.trod enc Tryz.prog w base (fun _ => true) held n 29 [v] = some x) : ∃ l : List Int, Ints w (fun _ => True) v l ∧ l.length + 1 ≤ Rows.uptoBulk x.1 := by
  rcases open_ints Tryz.underlying29 und3 (by kernel_rfl) h with ⟨h1, rfl⟩ | ⟨a, len, cap, zs, h1, _, hlc, _, hzl, rfl, hcell, _⟩
  · simp only [List.cons.injEq, and_true] at h1
    subst h1
    exact ⟨[], Arr.nil _ _ _, by simp [Rows.uptoBulk]⟩
  · simp only [List.cons.injEq, and_true] at h1
    subst h1
    simp only [if_true] at hzl
    have hl : (zs.take len).length = len := by simp; omega
    refine ⟨zs.take len, ?_, ?_⟩
    · have hA : Arr w (fun _ => True) (.slice (some a) (zs.take len).length cap) (zs.take len).length 1 ((zs.take len).map intV) := arr_of (by simp) (by omega) (by omega) (fun j u hj => by
        have hjl : j < len := by have := (List.getElem?_eq_some_iff.1 hj).1; simp at this; omega
        have := hcell j (by omega)
        rw [this]
        have hz : zs[j]? = some (zs.getD j 0) := by
          have : j < zs.length := by omega
          simp [List.getD_eq_getElem?_getD, this]
        have e : ((zs.take len).map intV)[j]? = some (intV (zs.getD j 0)) := by rw [List.getElem?_map, List.getElem?_take, if_pos hjl, hz]; rfl
        rw [e] at hj
        cases hj
        rfl)
      rw [hl] at hA
      show Arr w _ _ (zs.take len).length 1 _
      rw [hl]
      exact hA
    · have := slice_len_le (H := H) (lits .i64 (zs.take len)) (lits .i64 (zs.drop len))
      simpa [lits] using this

theorem und55 : ∃ f0 f1 f2 : Field, Tryz.prog.underlying 55 = some (.struct #[f0, f1, f2]) ∧ f0.offset = 0 ∧ f1.offset = 1 ∧ f2.offset = 2 ∧ f0.type = 3 ∧ f1.type = 3 ∧ f2.type = 29 := ⟨_, _, _, Tryz.underlying55, rfl, rfl, rfl, rfl, rfl, rfl⟩

set_option maxRecDepth 100000 in
/-- A list of declarations that comes in. -/
theorem open_items {n : Nat} {v : Value} {x : DataW H × List MemPlace} (h : DataW.trod enc Tryz.prog w base (fun _ => true) held n 22 [v] = some x) : ∃ (A : Option Addr) (c : Nat) (p : List It), v = .slice A p.length c ∧ Its w (fun _ => True) (.slice A p.length c) p ∧ wt p + 1 ≤ Rows.uptoBulk x.1 := by
  rcases open_slice Tryz.underlying22 h with ⟨h1, rfl⟩ | ⟨a, len, cap, m, k, D, Pl, h1, _, hlc, _, hm, rfl, hx⟩
  · simp only [List.cons.injEq, and_true] at h1
    subst h1
    exact ⟨none, 0, [], rfl, ⟨[], rfl, Arr.nil _ _ _, fun i x u h => by simp at h⟩, by simp [wt, Rows.uptoBulk]⟩
  · simp only [List.cons.injEq, and_true] at h1
    subst h1
    simp only [if_true] at hm
    subst hm
    have ce : Tryz.prog.cellsOf 55 = 3 := by kernel_rfl
    have c3 : Tryz.prog.cellsOf 3 = 1 := by kernel_rfl
    have c29 : Tryz.prog.cellsOf 29 = 1 := by kernel_rfl
    rw [ce] at hx
    obtain ⟨f0, f1, f2, hu, o0, o1, o2, t0, t1, t2⟩ := und55
    have each : ∀ i, i < len → ∃ q : It × Value, w.cell? (a.add (i * 3)) = some (intV q.1.kind) ∧ w.cell? (a.add (i * 3 + 1)) = some (intV q.1.many) ∧ w.cell? (a.add (i * 3 + 2)) = some q.2 ∧ Ints w (fun _ => True) q.2 q.1.refs ∧ q.1.refs.length + 1 ≤ Rows.uptoBulk (D i) := by
      intro i hi
      obtain ⟨cs', h1, h2⟩ := hx i (by omega)
      obtain ⟨_, hlen, hcell⟩ := World.cells?_some h1
      obtain ⟨xs, k', hk, hxy, _, hxl, hf⟩ := DataW.trod_struct hu h2
      match xs, hxl, cs', hlen with
      | [y0, y1, y2], _, [v0, v1, v2], _ =>
        have g0 := hf 0 f0 rfl
        have g1 := hf 1 f1 rfl
        have g2 := hf 2 f2 rfl
        simp [o0, o1, o2, t0, t1, t2, c3, c29] at g0 g1 g2
        have e0 := hcell 0 (by omega)
        have e1 := hcell 1 (by omega)
        have e2 := hcell 2 (by omega)
        rw [add_add] at e0 e1 e2
        obtain ⟨n0, hv0, hy0, _⟩ := DataW.trod_int und3 g0
        obtain ⟨n1, hv1, hy1, _⟩ := DataW.trod_int und3 g1
        obtain ⟨l, hl, hb⟩ := open_ref g2
        simp only [List.cons.injEq, and_true] at hv0 hv1
        subst hv0; subst hv1
        simp only [Prod.mk.injEq] at hxy
        refine ⟨(⟨n0, n1, l⟩, v2), by simpa [intV] using e0, by simpa [intV] using e1, by simpa using e2, hl, ?_⟩
        rw [hxy.1]
        simp only [List.map_cons, List.map_nil, Rows.uptoBulk, Rows.uptoBulkAll]
        omega
    have : Inhabited (It × Value) := ⟨(⟨0, 0, []⟩, .nilIface)⟩
    obtain ⟨q, hq⟩ := choose_lt each
    have hpl : ((List.range len).map fun i => (q i).1).length = len := by simp
    refine ⟨some a, m, (List.range len).map fun i => (q i).1, by rw [hpl], ?_, ?_⟩
    · refine ⟨(List.range len).map fun i => (q i).2, by simp, ?_, fun i x u hx' hu' => ?_⟩
      · have hA : Arr w (fun _ => True) (.slice (some a) len m) len 3 (itCells ((List.range len).map fun i => (q i).1) ((List.range len).map fun i => (q i).2)) := by
          refine arr_of (by rw [itCells_length _ _ (by simp), hpl]) hlc (by omega) (fun j u hj => ?_)
          have hjl : j < len * 3 := by
            have := (List.getElem?_eq_some_iff.1 hj).1
            rw [itCells_length _ _ (by simp), hpl] at this
            exact this
          have hi : j / 3 < len := by omega
          obtain ⟨z0, z1, z2⟩ := itCells_at ((List.range len).map fun i => (q i).1) ((List.range len).map fun i => (q i).2) (by simp) (j / 3) (q (j / 3)).1 (q (j / 3)).2 (by simp [hi]) (by simp [hi])
          obtain ⟨y0, y1, y2, _, _⟩ := hq (j / 3) hi
          have hmod : j % 3 = 0 ∨ j % 3 = 1 ∨ j % 3 = 2 := by omega
          rcases hmod with e | e | e
          · have ej : j = j / 3 * 3 := by omega
            rw [ej] at hj ⊢
            rw [← ej] at hj
            have : j = j / 3 * 3 := ej
            rw [show (itCells ((List.range len).map fun i => (q i).1) ((List.range len).map fun i => (q i).2))[j]? = (itCells ((List.range len).map fun i => (q i).1) ((List.range len).map fun i => (q i).2))[j / 3 * 3]? from by rw [← ej], z0] at hj
            cases hj
            exact y0
          · have ej : j = j / 3 * 3 + 1 := by omega
            rw [show (itCells ((List.range len).map fun i => (q i).1) ((List.range len).map fun i => (q i).2))[j]? = (itCells ((List.range len).map fun i => (q i).1) ((List.range len).map fun i => (q i).2))[j / 3 * 3 + 1]? from by rw [← ej], z1] at hj
            cases hj
            rw [show a.add j = a.add (j / 3 * 3 + 1) from by rw [← ej]]
            exact y1
          · have ej : j = j / 3 * 3 + 2 := by omega
            rw [show (itCells ((List.range len).map fun i => (q i).1) ((List.range len).map fun i => (q i).2))[j]? = (itCells ((List.range len).map fun i => (q i).1) ((List.range len).map fun i => (q i).2))[j / 3 * 3 + 2]? from by rw [← ej], z2] at hj
            cases hj
            rw [show a.add j = a.add (j / 3 * 3 + 2) from by rw [← ej]]
            exact y2
        rw [hpl]
        exact hA
      · have hi : i < len := by
          have := (List.getElem?_eq_some_iff.1 hx').1
          simpa using this
        simp [hi] at hx' hu'
        subst hx'; subst hu'
        exact (hq i hi).2.2.2.1
    · have key : ∀ (l : List Nat), (∀ i ∈ l, i < len) → wt (l.map fun i => (q i).1) ≤ Rows.uptoBulkAll (l.map D) := by
        intro l
        induction l with
        | nil => intro _; simp [wt, Rows.uptoBulkAll]
        | cons i l ih =>
          intro hl
          have h1 := ih (fun j hj => hl j (by simp [hj]))
          have h2 := (hq i (hl i (by simp))).2.2.2.2
          simp only [List.map_cons, wt, Rows.uptoBulkAll]
          omega
      have := key (List.range len) (fun i hi => List.mem_range.1 hi)
      simp only [Rows.uptoBulk]
      omega

/-- What stands behind the call. -/
theorem Gr.kept {W W' : World} (h : Gr W W') (may : MemPlace → Prop) : W.keptBut W' may := by
  refine ⟨h.os, h.output, fun i hi => ?_⟩
  rw [h.block i hi id]
  cases hw : W.heap[i]? with
  | none => rfl
  | some o =>
    cases o with
    | cells c t fr => exact ⟨rfl, rfl, rfl, fun _ _ => rfl⟩
    | map es clock => exact .inr ⟨rfl, rfl⟩
    | _ => rfl

theorem Gr.frozen {W W' : World} (h : Gr W W') {a : Addr} (ha : a.block < W.heap.size) : W'.frozen? a = W.frozen? a := by
  unfold World.frozen?
  rw [h.block a.block ha id]
end

theorem post_of_gr {H : Type} {enc : TypeId × Value → H} {P : Program} {f : Func} {s : ChangeSpec} {apart fresh handsOn again : Bool} {W W' : World} {args : Array Value} {v : Value} {ds gs : List (DataW H)} {before pa pv : List MemPlace}
    (hW : DataW.Whole enc P f.params.toList s.vars apart W args.toList ds gs before)
    (hres : ∀ (b : Nat) (sp : Nat → Bool) (hd : Bool), DataW.TrodAll enc P W' b sp hd f.resultTypes.toList (v.resultList f.resultTypes.size) (s.fn H (ds ++ gs)).results [])
    (hargs : ∀ sp : Nat → Bool, (∀ p ∈ before, sp p.block = true) → DataW.TrodAll enc P W' 0 sp true f.params.toList args.toList (s.fn H (ds ++ gs)).args pa)
    (hvars : ∀ sp : Nat → Bool, (∀ p ∈ before, sp p.block = true) → DataW.TrodVars enc P W' sp s.vars (s.fn H (ds ++ gs)).vars pv)
    (hps : before = pa ++ pv) (hg : Gr W W')
    (hok : ∀ (j : Nat) (t : TypeId) (r : Value), f.resultTypes[j]? = some t → (v.resultList f.resultTypes.size)[j]? = some r → Value.okWide P W' .any 0 t r) :
    s.post enc P f apart fresh handsOn again W args v W' := by
  have hold : ∀ p ∈ before, (fun b => decide (b < W.heap.size)) p.block = true := fun p hp => by simpa using hW.lt p hp
  have hlt : ∀ p ∈ before, p.block < W.heap.size := fun p hp => hW.lt p hp
  refine ⟨ds, gs, before, [], pa, pv, hW, hres _ _ _, hargs _ hold, hvars _ hold, World.keptBut_mono (fun p hp => ⟨hp, ?_⟩) (hg.kept (· ∈ before)), fun _ => ?_⟩
  · rw [hps, List.mem_append] at hp
    exact Or.inr hp
  · obtain ⟨_, _, _, _, _, hz, hn⟩ := hW
    refine ⟨hok, _, _, ([] ++ pa) ++ pv, ⟨[] ++ pa, pv, trodAll_append (hargs _ (fun _ _ => rfl)) (hres _ _ _), hvars _ (fun _ _ => rfl), rfl, ?_, ?_⟩, ?_⟩
    · intro b off hp
      have hb : MemPlace.cell b off ∈ before := by rw [hps]; simpa using hp
      rw [hg.frozen (by exact hlt _ hb)]
      exact hz b off hb
    · intro ha
      have := hn ha
      rw [hps] at this
      simpa using this
    · intro p hp _
      rw [hps]
      simpa using hp

set_option maxRecDepth 100000 in
theorem okWide_true (W' : World) {f : Func} (hf : f.resultTypes = #[4]) : ∀ (j : Nat) (t : TypeId) (r : Value), f.resultTypes[j]? = some t → ((Value.bool true).resultList f.resultTypes.size)[j]? = some r → Value.okWide Tryz.prog W' .any 0 t r :=
  ok_one hf rfl (okWide_bool_mk Tryz.underlying4 _)

theorem trodAll_stays {H : Type} {enc : TypeId × Value → H} {P : Program} (hl : laidOutB P = true) {W W' : World} (hg : Gr W W') : ∀ {ts : List TypeId} {vs : List Value} {ds : List (DataW H)} {ps : List MemPlace}, (∀ t ∈ ts, P.readableRec t = true ∧ t < P.types.size) →
    DataW.TrodAll enc P W 0 (fun _ => true) true ts vs ds ps → (∀ x ∈ ps, x.block < W.heap.size) → ∀ sp : Nat → Bool, (∀ x ∈ ps, sp x.block = true) → DataW.TrodAll enc P W' 0 sp true ts vs ds ps
  | [], vs, ds, ps, _, h, _, sp, _ => by
    obtain ⟨rfl, rfl, rfl⟩ := trodAll_nil h
    exact trodAll_mk0
  | t :: ts, vs, ds, ps, ht, h, hlt, sp, hsp => by
    obtain ⟨v, vs', d, ds', p, q, rfl, rfl, rfl, h1, h2⟩ := trodAll_cons h
    obtain ⟨hr, hrow⟩ := ht t (by simp)
    refine trodAll_cons_mk (WideElems.Trod_stays hl hr hrow h1 (fun x hx => hg.below.same (hlt x (by simp [hx]))) (fun x hx => hsp x (by simp [hx]))) ?_
    exact trodAll_stays hl hg (fun t ht' => ht t (by simp [ht'])) h2 (fun x hx => hlt x (by simp [hx])) sp (fun x hx => hsp x (by simp [hx]))

theorem laidOut : laidOutB Tryz.prog = true := by kernel_rfl
theorem own0 : ownKnob Tryz.prog.godebug = none := by kernel_rfl
theorem row22 : Tryz.prog.readableRec 22 = true ∧ 22 < Tryz.prog.types.size := ⟨by kernel_rfl, of_decide_eq_true (by kernel_rfl)⟩
theorem row3 : Tryz.prog.readableRec 3 = true ∧ 3 < Tryz.prog.types.size := ⟨by kernel_rfl, of_decide_eq_true (by kernel_rfl)⟩
theorem row4 : Tryz.prog.readableRec 4 = true ∧ 4 < Tryz.prog.types.size := ⟨by kernel_rfl, of_decide_eq_true (by kernel_rfl)⟩
theorem row29 : Tryz.prog.readableRec 29 = true ∧ 29 < Tryz.prog.types.size := ⟨by kernel_rfl, of_decide_eq_true (by kernel_rfl)⟩

set_option maxRecDepth 100000 in
/-- A law that returned true, whose arguments stand as they stood. -/
theorem law_post {H : Type} {enc : TypeId × Value → H} {f : Func} {s : ChangeSpec} {apart fresh handsOn again : Bool} {W W' : World} {args : Array Value} {ds gs : List (DataW H)} {before : List MemPlace}
    (hf : f.resultTypes = #[4]) (hv : s.vars = []) (hs : s.fn H (ds ++ gs) = { results := [.lit (.bool true)], args := ds }) (hrows : ∀ t ∈ f.params.toList, Tryz.prog.readableRec t = true ∧ t < Tryz.prog.types.size)
    (hW : DataW.Whole enc Tryz.prog f.params.toList s.vars apart W args.toList ds gs before) (hg : Gr W W') : s.post enc Tryz.prog f apart fresh handsOn again W args (.bool true) W' := by
  have hlt := fun p hp => hW.lt (p := p) hp
  have hW' := hW
  obtain ⟨p, q, hA0, hV, rfl, hfz, hnd⟩ := hW
  have hA : DataW.TrodAll enc Tryz.prog W 0 (fun _ => true) true f.params.toList args.toList ds p := hA0
  rw [hv] at hV
  obtain ⟨rfl, rfl⟩ := trodVars_none hV
  refine post_of_gr (pa := p) (pv := []) hW' (fun b sp hd => ?_) (fun sp hsp => ?_) (fun sp _ => ?_) rfl hg (okWide_true W' hf)
  · rw [hs, hf]
    exact trodAll_cons_mk (shut_bool Tryz.underlying4 _) trodAll_mk0
  · rw [hs]
    exact trodAll_stays laidOut hg hrows hA (fun x hx => hlt x (by simpa using hx)) sp (fun x hx => hsp x (by simpa using hx))
  · rw [hv, hs]
    rfl

theorem bound_of {H : Type} {l : List (DataW H)} (hk : Rows.uptoSmall H l = true) : Rows.uptoBulkAll l ≤ 1048576 := of_decide_eq_true hk
end Go.Proofs.YtelfaljidgfphaaGreat
