/-
  A copy of declarations whose references are laid anew: the walk of 'Flat' (package spec).
-/
import Derived.Test.YtelfaljidgfphaaGreatT1
namespace Go.Proofs.YtelfaljidgfphaaGreat
open Go.RowKit

theorem itCells_set : ∀ (l : List It) (vs : List Value) (k : Nat) (u : Value) (x : List Int), vs.length = l.length → k < l.length → (itCells l vs).set (k * 3 + 2) u = itCells (l.set k { it l k with refs := x }) (vs.set k u)
  | [], _, k, _, _, _, h => by simp at h
  | y :: l, [], k, _, _, h, _ => by simp at h
  | y :: l, v :: vs, 0, u, x, _, _ => by simp [itCells, it]
  | y :: l, v :: vs, k + 1, u, x, h, hk => by
    have ih := itCells_set l vs k u x (by simpa using h) (by simpa using hk)
    have e : (k + 1) * 3 + 2 = k * 3 + 2 + 1 + 1 + 1 := by omega
    rw [e]
    simp only [itCells, List.set_cons_succ]
    rw [ih]
    simp [it]

/-- Other references are laid. -/
theorem OwnIts.setRefs {w : World} {B g o n c e : Nat} {l : List It} (h : OwnIts w B e (.slice (some ⟨g, o, none⟩) n c) l) {k : Nat} (hk : k < l.length) {u : Value} {x : List Int} (hu : Ints w (fun b => b ≠ g) u x) :
    OwnIts (w.setCell ⟨g, o + k * 3 + 2, none⟩ u) B e (.slice (some ⟨g, o, none⟩) n c) (l.set k { it l k with refs := x }) := by
  obtain ⟨vs, h1, h2, h3⟩ := h
  obtain rfl : n = l.length := by
    obtain ⟨A', c', e'⟩ := h2.arr.val
    simp only [Value.slice.injEq] at e'
    exact e'.2.1
  have hf := fr_set w g (o + k * 3 + 2) u
  refine ⟨vs.set k u, by simpa using h1, ?_, fun i y z hy hz => ?_⟩
  · have h4 := h2.set rfl (j := k * 3 + 2) (by omega) u
    rw [itCells_set l vs k u x h1 hk] at h4
    rw [List.length_set]
    rw [show o + (k * 3 + 2) = o + k * 3 + 2 by omega] at h4
    exact h4
  · rw [List.getElem?_set] at hy hz
    by_cases e1 : k = i
    · subst e1
      rw [if_pos rfl, if_pos hk] at hy
      rw [if_pos rfl, if_pos (by omega)] at hz
      cases hy; cases hz
      exact (hu.fr hf (fun b hb => hb)).mono (fun b _ hb e => hb (by simpa [Value.ownBlock] using e.symm))
    · rw [if_neg e1] at hy hz
      exact (h3 i y z hy hz).fr hf (fun b hb e => hb (by rw [e]; rfl))

theorem OwnIts.cellAt {w : World} {B g o n c e : Nat} {l : List It} (h : OwnIts w B e (.slice (some ⟨g, o, none⟩) n c) l) {k : Nat} (hk : k < l.length) :
    ∃ cv, (∃ cur, w.heap[g]? = some (.cells cur e (0, 0))) ∧ w.cell? ⟨g, o + k * 3 + 2, none⟩ = some cv ∧ ∀ i, w.frozen? ⟨g, i, none⟩ = false := by
  obtain ⟨vs, h1, h2, h3⟩ := h
  obtain ⟨g', o', cap, cur, he, _, hg, _, _, hc⟩ := h2.at_ (by omega)
  simp only [Value.slice.injEq, Option.some.injEq, Addr.mk.injEq, and_true] at he
  obtain ⟨⟨rfl, rfl⟩, -, rfl⟩ := he
  obtain ⟨x, hx⟩ := get_lt hk
  obtain ⟨y, hy⟩ := get_lt (l := vs) (k := k) (by omega)
  obtain ⟨z0, z1, z2⟩ := itCells_at l vs h1 k x y hx hy
  refine ⟨y, ⟨cur, hg⟩, ?_, frozen_row hg⟩
  have := hc _ _ z2
  rwa [show o + (k * 3 + 2) = o + k * 3 + 2 by omega] at this

/-- 'append(Package(nil), p...)' -/
theorem copy_items {w : World} {ok : Nat → Prop} {A : Option Addr} {c : Nat} {p : List It} (hp : Its w ok (.slice A p.length c) p) (hl : p.length ≤ 2097152) (ty : TypeId) :
    ∃ v w', Hid ((Builtin.append_ #[26, 26] ty #[.slice none 0 0, .slice A p.length c]).run Tryz.prog w = .ok v w') ∧ OwnIts w' w.heap.size 47 v p ∧ Gr w w' := by
  obtain ⟨vs, h1, h2, h3⟩ := hp
  have hone : ∀ u ∈ itCells p vs, u.oneCell' = true := by
    intro u hu
    obtain ⟨j, hj⟩ := List.mem_iff_getElem?.1 hu
    have hjl := (List.getElem?_eq_some_iff.1 hj).1
    rw [itCells_length _ _ h1] at hjl
    have hi : j / 3 < p.length := by omega
    obtain ⟨x, hx⟩ := get_lt hi
    obtain ⟨y, hy⟩ := get_lt (l := vs) (k := j / 3) (by omega)
    obtain ⟨z0, z1, z2⟩ := itCells_at p vs h1 (j / 3) x y hx hy
    have hm : j % 3 = 0 ∨ j % 3 = 1 ∨ j % 3 = 2 := by omega
    rcases hm with e | e | e
    · rw [show j = j / 3 * 3 by omega, z0] at hj; cases hj; rfl
    · rw [show j = j / 3 * 3 + 1 by omega, z1] at hj; cases hj; rfl
    · rw [show j = j / 3 * 3 + 2 by omega, z2] at hj
      cases hj
      obtain ⟨A', c', rfl⟩ := (h3 _ x _ hx hy).val
      rfl
  obtain ⟨v, w', hr, hown, hf, -, hblk⟩ := run_append (P := Tryz.prog) (ty := ty) (ok := fun b => w.heap.size ≤ b) elem47 Tryz.underlying26 Tryz.underlying26 (Own.nil w (fun b => w.heap.size ≤ b) 47 3) h2 hone (by simp only [maxLen]; omega) (by omega) (fun k hk => hk)
  have hg : Gr w w' := hf.mono (fun b _ hb => by simp [Value.ownBlock] at hb)
  refine ⟨v, w', Lib.hid hr, ⟨vs, h1, by simpa using hown, fun i x u hx hu => ?_⟩, hg⟩
  have h4 := (h3 i x u hx hu).mono (ok' := fun b => b < w.heap.size) (fun b hb _ => hb)
  exact (h4.gr hg).mono (fun b _ hb e => by
    rcases hblk b e with h5 | h5
    · simp [Value.ownBlock] at h5
    · omega)

/-- The first k declarations with other references. -/
def newTo (p : List It) (f : Nat → List Int) (k : Nat) : List It := (List.range p.length).map fun i => { it p i with refs := if i < k then f i else (it p i).refs }
theorem newTo_length (p : List It) (f : Nat → List Int) (k : Nat) : (newTo p f k).length = p.length := by simp [newTo]
theorem newTo_zero (p : List It) (f : Nat → List Int) : newTo p f 0 = p := by
  unfold newTo
  apply List.ext_getElem?
  intro i
  rw [List.getElem?_map]
  by_cases h : i < p.length
  · rw [List.getElem?_range h, it_get h]; simp
  · simp [h]
theorem it_newTo {p : List It} {f : Nat → List Int} {k i : Nat} (hi : i < p.length) : it (newTo p f k) i = { it p i with refs := if i < k then f i else (it p i).refs } := by
  apply it_of
  unfold newTo
  rw [List.getElem?_map, List.getElem?_range hi]; rfl
theorem newTo_set {p : List It} {f : Nat → List Int} {k : Nat} (hk : k < p.length) (x : List Int) : (newTo p f k).set k { it (newTo p f k) k with refs := x } = (newTo p f k).set k { it p k with refs := x } := by
  rw [it_newTo hk]
theorem newTo_succ {p : List It} {f : Nat → List Int} {k : Nat} (hk : k < p.length) : (newTo p f k).set k { it p k with refs := f k } = newTo p f (k + 1) := by
  apply List.ext_getElem?
  intro i
  rw [List.getElem?_set, newTo_length]
  by_cases e : k = i
  · subst e
    rw [if_pos rfl, if_pos hk]
    unfold newTo
    rw [List.getElem?_map, List.getElem?_range hk]
    simp
  · rw [if_neg e]
    unfold newTo
    rw [List.getElem?_map, List.getElem?_map]
    by_cases h : i < p.length
    · rw [List.getElem?_range h]
      have : (i < k + 1) ↔ i < k := by omega
      simp [this]
    · simp [h]
theorem newTo_same (p : List It) (f : Nat → List Int) (k : Nat) : Same p (newTo p f k) := by
  unfold Same newTo
  apply List.ext_getElem?
  intro i
  rw [List.getElem?_map, List.getElem?_map, List.getElem?_map]
  by_cases h : i < p.length
  · rw [List.getElem?_range h, it_get h]; rfl
  · simp [h]

/-- What 'Flat' lays. -/
noncomputable def flatF (p : List It) (k : Nat) : List Int := if (it p k).var then ints (marks (needs p k)) else []
noncomputable def flat (p : List It) : List It := newTo p (flatF p) p.length

def EmptyRel (w : World) (i : Value) (wr : World) : Prop := i = .int .i64 0 ∧ wr = w

def NewRel (w : World) (p : List It) (f : Nat → List Int) (g o c : Nat) (i : Value) (wr : World) : Prop :=
  ∃ k : Nat, k ≤ p.length ∧ i = .int .i64 k ∧ OwnIts wr w.heap.size 47 (.slice (some ⟨g, o, none⟩) p.length c) (newTo p f k) ∧ Gr w wr

set_option maxHeartbeats 4000000 in
set_option maxRecDepth 100000 in
theorem Flat_any (w : World) (ok : Nat → Prop) (A : Option Addr) (c : Nat) (p : List It) (hp : Its w ok (.slice A p.length c) p) (hk : KOk p) (hr : ROk p) (hl : p.length ≤ 2097152) (hw : wt p ≤ 4194304) :
    Calls Tryz.prog 27 #[.slice A p.length c] w (PVal fun v w' => OwnIts w' w.heap.size 47 v (flat p) ∧ Gr w w') := by
  have hcnt := cnt_le hk
  obtain ⟨v1, w1, Hr1, ho1, hg1⟩ := copy_items hp hl 26
  by_cases hn0 : p.length = 0
  · have hpz : p = [] := List.eq_nil_of_length_eq_zero hn0
    subst hpz
    obtain ⟨A1, c1, rfl⟩ := ho1.its.val
    go_enter Tryz.func27, Tryz.ntmps27
    go_wp2_with (at_builtin; refine wpList_appended rfl _ _ _ _ rfl rfl rfl Hr1 ?_)
    go_loopw [10] (EmptyRel w1) (fun _ _ => 0)
    case atStart => exact ⟨rfl, rfl⟩
    case round =>
      obtain ⟨rfl, rfl⟩ := hrel
      go_wp2
      go_ret
      exact ⟨_, rfl, ho1, hg1⟩
  · obtain ⟨vs1, hv1, hv2, hv3⟩ := ho1
    obtain ⟨g, o, c1, cur1, rfl, hgge, hgrow, hcap1, hsz1, -⟩ := hv2.at_ (by omega)
    have ho1' : OwnIts w1 w.heap.size 47 (.slice (some ⟨g, o, none⟩) p.length c1) (newTo p (flatF p) 0) := by rw [newTo_zero]; exact ⟨vs1, hv1, hv2, hv3⟩
    clear hv2 hv3
    go_enter Tryz.func27, Tryz.ntmps27
    go_wp2_with (at_builtin; refine wpList_appended rfl _ _ _ _ rfl rfl rfl Hr1 ?_)
    go_loopw [10] (NewRel w p (flatF p) g o c1) (fun i _ => p.length - (intOf i).toNat)
    case atStart => exact ⟨0, by omega, rfl, ho1', hg1⟩
    case round =>
      obtain ⟨k, hkp, rfl, hown, hgr⟩ := hrel
      clear ho1'
      by_cases hlt : k < p.length
      · obtain ⟨b, oo, A', c', rfl, -, -, q0, q1, q2, hrefs⟩ := (hp.gr hgr).at_ hlt
        have hkl : k < (newTo p (flatF p) k).length := by rw [newTo_length]; exact hlt
        obtain ⟨cv, ⟨curR, rowR⟩, cellR, frozR⟩ := hown.cellAt hkl
        have hgl : g < wr.heap.size := heap_lt rowR
        have hownS := hown.setRefs hkl (u := .slice none 0 0) (x := []) (Arr.nil _ _ _)
        rw [newTo_set hlt] at hownS
        have hown2 := hownS.gr ((Gr.refl _).alloc (.cells #[.int .i64 (it p k).kind, .int .i64 (it p k).many, .slice A' (it p k).refs.length c'] 47))
        have hf2 := fr_set wr g (o + k * 3 + 2) (.slice none 0 0)
        have hg2 : Gr w ((wr.setCell ⟨g, o + k * 3 + 2, none⟩ (.slice none 0 0)).alloc (.cells #[.int .i64 (it p k).kind, .int .i64 (it p k).many, .slice A' (it p k).refs.length c'] 47)) := (hgr.step hf2 (fun b hb => by omega)).alloc _
        have hbx := heap_alloc_new (wr.setCell ⟨g, o + k * 3 + 2, none⟩ (.slice none 0 0)) (.cells #[.int .i64 (it p k).kind, .int .i64 (it p k).many, .slice A' (it p k).refs.length c'] 47)
        simp only [size_set] at hbx
        have z0 := (cell_row hbx 0).trans rfl
        have z1 := (cell_row hbx 1).trans rfl
        have z2 := (cell_row hbx 2).trans rfl
        have hki : (k : Int) < (p.length : Int) := by omega
        cases hv : (it p k).var
        · have hfk : flatF p k = [] := by simp [flatF, hv]
          go_wp2_with (go_at_call 47; refine (isVar_any (it p k) _ _ _ _).mono ?_; rintro e w4 ⟨rfl, hg4⟩; rw [hv])
          go_roundw
          case rel =>
            refine ⟨k + 1, by omega, by go_num, ?_, hg2.trans hg4⟩
            rw [← newTo_succ hlt, hfk]
            exact hown2.gr hg4
          case measure => simp [intOf]; omega
        · have hfk : flatF p k = ints (marks (needs p k)) := by simp [flatF, hv]
          have hpa := hp.gr hg2
          have hki2 : k < ((newTo p (flatF p) k).set k { it p k with refs := [] }).length := by rw [List.length_set, newTo_length]; exact hlt
          have Hnl := Lib.hid (needs_length p k)
          go_wp2_with (first
            | (go_at_call 48; refine (list_any w5 (fun _ => True) A5 c5 (needs p k) hb5 (by rw [Hnl.out]; omega)).mono ?_; rintro e w6 ⟨v6, rfl, ho6, hg6⟩; obtain ⟨A6, c6, rfl⟩ := ho6.val; have hown6 := hown2.gr ((hg4.trans hg5).trans hg6); obtain ⟨cv6, -, cell6, froz6⟩ := hown6.cellAt hki2)
            | (go_at_call 36; refine (Needs_any w4 ok _ c p k (hpa.gr hg4) hk hr hl hw hlt).mono ?_; rintro e w5 ⟨v5, rfl, ho5, hg5⟩; obtain ⟨A5, c5, rfl⟩ := ho5.val; have hb5 : Bools w5 (fun _ => True) (.slice A5 (needs p k).length c5) (needs p k) := (by have := ho5.arr.mono (ok' := fun _ => True) (fun _ _ _ => trivial); unfold Bools; rw [Hnl.out]; exact this); rw [← Hnl.out])
            | (go_at_call 47; refine (isVar_any (it p k) _ _ _ _).mono ?_; rintro e w4 ⟨rfl, hg4⟩; rw [hv]))
          go_roundw
          case rel =>
            have hgall := hg2.trans ((hg4.trans hg5).trans hg6)
            refine ⟨k + 1, by omega, by go_num, ?_, hgall.step (fr_set _ _ _ _) (fun b hb => by omega)⟩
            rw [← newTo_succ hlt, hfk]
            have h7 := hown6.setRefs hki2 (u := .slice A6 (marks (needs p k)).length c6) (x := ints (marks (needs p k))) (ho6.ints.mono (fun b _ hb e => by have := (hg4.trans hg5).size; simp only [World.size_alloc, size_set] at this; omega))
            have e7 : it ((newTo p (flatF p) k).set k { it p k with refs := [] }) k = { it p k with refs := [] } := it_of (by rw [List.getElem?_set, if_pos rfl, if_pos hkl])
            rw [e7, List.set_set] at h7
            exact h7
          case measure => simp [intOf]; omega
      · have hk0 : k = p.length := by omega
        subst hk0
        go_wp2
        go_ret
        exact ⟨_, rfl, hown, hgr⟩
end Go.Proofs.YtelfaljidgfphaaGreat
