/-
  References laid one by one: the walk of 'Without' (package spec).
-/
import Derived.Test.YtelfaljidgfphaaGreatN2
namespace Go.Proofs.YtelfaljidgfphaaGreat
open Go.RowKit

/-- The declarations l, of which the k-th one's references are being laid: cur so far, in the slice u. -/
def OutIn (B Bk g o c : Nat) (l : List It) (k : Nat) (cur : List Int) (u : Value) (w : World) : Prop :=
  ∃ vs : List Value, vs.length = l.length ∧ Own w (fun b => B ≤ b) 47 3 (.slice (some ⟨g, o, none⟩) l.length c) l.length (itCells l (vs.set k u)) ∧
    (∀ (i : Nat) (x : It) (y : Value), i ≠ k → l[i]? = some x → vs[i]? = some y → Ints w (fun b => b ≠ g ∧ b < Bk) y x.refs) ∧ Own w (fun b => Bk ≤ b) 3 1 u cur.length (cur.map intV) ∧ g < Bk

section
variable {B Bk g o c k : Nat} {l : List It} {cur : List Int} {u : Value} {w w' : World}

theorem itCells_kinds : ∀ (l l' : List It) (vs : List Value), l'.map (fun x => (x.kind, x.many)) = l.map (fun x => (x.kind, x.many)) → itCells l' vs = itCells l vs
  | [], [], _, _ => rfl
  | [], y :: l', _, h => by simp at h
  | x :: l, [], _, h => by simp at h
  | x :: l, y :: l', [], _ => rfl
  | x :: l, y :: l', v :: vs, h => by
    simp only [List.map_cons, List.cons.injEq, Prod.mk.injEq] at h
    simp only [itCells, h.1.1, h.1.2, itCells_kinds l l' vs h.2]

theorem OutIn.start (h : OwnIts w B 47 (.slice (some ⟨g, o, none⟩) l.length c) l) (hk : k < l.length) : OutIn B w.heap.size g o c l k [] (.slice none 0 0) (w.setCell ⟨g, o + k * 3 + 2, none⟩ (.slice none 0 0)) := by
  obtain ⟨-, ⟨cur', hrow⟩, -, -⟩ := h.cellAt hk
  have hgl := heap_lt hrow
  obtain ⟨vs, h1, h2, h3⟩ := h
  have hf := fr_set w g (o + k * 3 + 2) (.slice none 0 0)
  refine ⟨vs, h1, ?_, fun i x y hi hx hy => ?_, Own.nil _ _ _ _, hgl⟩
  · have h4 := h2.set rfl (j := k * 3 + 2) (by omega) (.slice none 0 0)
    rw [itCells_set l vs k _ [] h1 hk, show o + (k * 3 + 2) = o + k * 3 + 2 by omega] at h4
    rw [itCells_kinds l _ _ (by
      rw [List.map_set]
      apply List.ext_getElem?
      intro i
      rw [List.getElem?_set, List.length_map]
      by_cases e : k = i
      · subst e
        rw [if_pos rfl, if_pos hk, List.getElem?_map, it_get hk]; rfl
      · rw [if_neg e])] at h4
    exact h4
  · have h5 := (h3 i x y hx hy).mono (ok' := fun b => b ≠ g ∧ b < w.heap.size) (fun b hb hn => ⟨fun e => hn (by rw [e]; rfl), hb⟩)
    exact h5.fr hf (fun b hb e => hb.1 e)

theorem OutIn.gr (h : OutIn B Bk g o c l k cur u w) (hg : Gr w w') : OutIn B Bk g o c l k cur u w' := by
  obtain ⟨vs, h1, h2, h3, h4, h5⟩ := h
  exact ⟨vs, h1, h2.gr hg, fun i x y hi hx hy => (h3 i x y hi hx hy).gr hg, h4.gr hg, h5⟩

theorem OutIn.cellAt (h : OutIn B Bk g o c l k cur u w) (hk : k < l.length) : (∃ cr, w.heap[g]? = some (.cells cr 47 (0, 0))) ∧ w.cell? ⟨g, o + k * 3 + 2, none⟩ = some u ∧ (∀ i, w.frozen? ⟨g, i, none⟩ = false) ∧ B ≤ g := by
  obtain ⟨vs, h1, h2, h3, h4, h5⟩ := h
  obtain ⟨g', o', cap, cr, he, hge, hg, _, _, hc⟩ := h2.at_ (by omega)
  simp only [Value.slice.injEq, Option.some.injEq, Addr.mk.injEq, and_true] at he
  obtain ⟨⟨rfl, rfl⟩, -, rfl⟩ := he
  obtain ⟨x, hx⟩ := get_lt hk
  obtain ⟨z0, z1, z2⟩ := itCells_at l (vs.set k u) (by simpa using h1) k x u hx (by rw [List.getElem?_set, if_pos rfl, if_pos (by omega)])
  refine ⟨⟨cr, hg⟩, ?_, frozen_row hg, hge⟩
  have := hc _ _ z2
  rwa [show o + (k * 3 + 2) = o + k * 3 + 2 by omega] at this

/-- More is appended, and laid. -/
theorem OutIn.more (h : OutIn B Bk g o c l k cur u w) (hk : k < l.length) {cur' : List Int} {u' : Value} (ho : Own w' (fun b => Bk ≤ b) 3 1 u' cur'.length (cur'.map intV)) (hf : Fr (fun b => u.ownBlock = some b) w w') :
    OutIn B Bk g o c l k cur' u' (w'.setCell ⟨g, o + k * 3 + 2, none⟩ u') := by
  obtain ⟨⟨cr, hrow⟩, -, -, -⟩ := h.cellAt hk
  obtain ⟨vs, h1, h2, h3, h4, h5⟩ := h
  have hug : ∀ b, u.ownBlock = some b → ∃ cr', w.heap[b]? = some (.cells cr' 3 (0, 0)) := fun b hb => h4.row hb
  have hne : ¬ u.ownBlock = some g := fun e => by
    obtain ⟨cr', h6⟩ := hug g e
    exact ne_cells h6 hrow (by decide) rfl
  have hrow' := hf.heap hrow hne
  have hfs := fr_set w' g (o + k * 3 + 2) u'
  have h2' := h2.fr hf (fun b hb e => by simp [Value.ownBlock] at hb; subst hb; exact hne e)
  refine ⟨vs, h1, ?_, fun i x y hi hx hy => ?_, ho.fr hfs (fun b hb e => ?_), h5⟩
  · have h7 := h2'.set rfl (j := k * 3 + 2) (by omega) u'
    rw [itCells_set l (vs.set k u) k _ [] (by simpa using h1) hk, List.set_set, show o + (k * 3 + 2) = o + k * 3 + 2 by omega] at h7
    rw [itCells_kinds l _ _ (by
      rw [List.map_set]
      apply List.ext_getElem?
      intro i
      rw [List.getElem?_set, List.length_map]
      by_cases e : k = i
      · subst e
        rw [if_pos rfl, if_pos hk, List.getElem?_map, it_get hk]; rfl
      · rw [if_neg e])] at h7
    exact h7
  · have h8 := (h3 i x y hi hx hy).fr hf (fun b hb e => by have := (h4.blk b e).1; omega)
    exact h8.fr hfs (fun b hb e => hb.1 e)
  · obtain ⟨cr', h9⟩ := ho.row hb
    subst e
    exact ne_cells h9 hrow' (by decide) rfl

theorem OutIn.done (h : OutIn B Bk g o c l k cur u w) (hk : k < l.length) : OwnIts w B 47 (.slice (some ⟨g, o, none⟩) l.length c) (l.set k { it l k with refs := cur }) := by
  obtain ⟨vs, h1, h2, h3, h4, h5⟩ := h
  refine ⟨vs.set k u, by simpa using h1, ?_, fun i x y hx hy => ?_⟩
  · rw [List.length_set]
    rw [itCells_kinds l _ _ (by
      rw [List.map_set]
      apply List.ext_getElem?
      intro i
      rw [List.getElem?_set, List.length_map]
      by_cases e : k = i
      · subst e
        rw [if_pos rfl, if_pos hk, List.getElem?_map, it_get hk]; rfl
      · rw [if_neg e])]
    exact h2
  · rw [List.getElem?_set] at hx hy
    by_cases e : k = i
    · subst e
      rw [if_pos rfl, if_pos hk] at hx
      rw [if_pos rfl, if_pos (by omega)] at hy
      cases hx; cases hy
      exact h4.ints.mono (fun b _ hb e => by simp [Value.ownBlock] at e; omega)
    · rw [if_neg e] at hx hy
      exact (h3 i x y (fun e' => e e'.symm) hx hy).mono (fun b _ hb e' => hb.1 (by simpa [Value.ownBlock] using e'.symm))
end

/-- What 'Without' leaves of a declaration's references. -/
def witP (p : List It) (K : Int) (k : Nat) (r : Int) : Bool := decide ((it p k).kind ≠ K) && decide ((it p (own p r.toNat)).kind ≠ K)
def witF (p : List It) (K : Int) (k : Nat) : List Int := (it p k).refs.filter (witP p K k)
def without (p : List It) (K : Int) : List It := newTo p (witF p K) p.length

def WitRel (w1 wr : World) (p : List It) (K : Int) (g o c k : Nat) (A' : Option Addr) (c' : Nat) (i : Value) (wx : World) : Prop :=
  ∃ (m : Nat) (u : Value), m ≤ (it p k).refs.length ∧ i = .int .i64 (m : Int) ∧ OutIn w1.heap.size wr.heap.size g o c (newTo p (witF p K) k) k (((it p k).refs.take m).filter (witP p K k)) u wx ∧
    wx.heap[wr.heap.size]? = some (.cells #[.int .i64 (it p k).kind, .int .i64 (it p k).many, .slice A' (it p k).refs.length c'] 47 (0, 0)) ∧ Gr w1 wx ∧ wr.heap.size ≤ wx.heap.size

set_option maxHeartbeats 4000000 in
set_option maxRecDepth 100000 in
theorem Without_any (w : World) (ok : Nat → Prop) (A : Option Addr) (c : Nat) (p : List It) (K : Int) (hp : Its w ok (.slice A p.length c) p) (hk : KOk p) (hr : ROk p) (hl : p.length ≤ 2097152) (hw : wt p ≤ 4194304) :
    Calls Tryz.prog 26 #[.slice A p.length c, .int .i64 K] w (PVal fun v w' => (∃ B, OwnIts w' B 47 v (without p K)) ∧ Gr w w') := by
  have hcnt := cnt_le hk
  have hcnt : cnt p ≤ 209715200 := by omega
  have hcopy := fun (w1 : World) (hg1 : Gr w w1) => copy_items (hp.gr hg1) hl 26
  go_enter Tryz.func26, Tryz.ntmps26
  go_wp2_with (first
    | (at_builtin; refine wpList_appended rfl _ _ _ _ rfl rfl rfl Hr2 ?_)
    | (go_at_call 46; refine (owners_any w ok A c p hp hk hl).mono ?_; rintro e w1 ⟨v1, rfl, ho1, hg1⟩; obtain ⟨Ao, co, rfl⟩ := ho1.val; obtain ⟨v2, w2, Hr2, hi2, hg2⟩ := hcopy w1 hg1))
  clear hcopy
  by_cases hn0 : p.length = 0
  · have hpz : p = [] := List.eq_nil_of_length_eq_zero hn0
    subst hpz
    obtain ⟨A2, c2, rfl⟩ := hi2.its.val
    go_loopw [17] (EmptyRel w2) (fun _ _ => 0)
    case atStart => exact ⟨rfl, rfl⟩
    case round =>
      obtain ⟨rfl, rfl⟩ := hrel
      go_wp2
      go_ret
      exact ⟨_, rfl, ⟨_, hi2⟩, hg1.trans hg2⟩
  · obtain ⟨vs1, hv1, hv2, hv3⟩ := hi2
    obtain ⟨g, o, c1, cur1, rfl, hgge, hgrow, hcap1, hsz1, -⟩ := hv2.at_ (by omega)
    have ho1' : OwnIts w2 w1.heap.size 47 (.slice (some ⟨g, o, none⟩) p.length c1) (newTo p (witF p K) 0) := by rw [newTo_zero]; exact ⟨vs1, hv1, hv2, hv3⟩
    clear hv2 hv3
    go_loopw [17] (NewRel w1 p (witF p K) g o c1) (fun i _ => p.length - (intOf i).toNat)
    case atStart => exact ⟨0, by omega, rfl, ho1', hg2⟩
    case round =>
      obtain ⟨k, hkp, rfl, hown, hgr⟩ := hrel
      clear ho1'
      by_cases hlt : k < p.length
      · have hgw := hg1.trans hgr
        obtain ⟨b, oo, A', c', rfl, -, -, q0, q1, q2, hrefs⟩ := hp.at_ hlt
        replace q0 := hgw.cell q0
        replace q1 := hgw.cell q1
        replace q2 := hgw.cell q2
        have hnl : (newTo p (witF p K) k).length = p.length := newTo_length _ _ _
        have hkl : k < (newTo p (witF p K) k).length := by rw [hnl]; exact hlt
        obtain ⟨cv, ⟨curR, rowR⟩, cellR, frozR⟩ := hown.cellAt hkl
        have hgl : g < wr.heap.size := heap_lt rowR
        have hout := OutIn.start (by rw [hnl]; exact hown) hkl
        have hf2 := fr_set wr g (o + k * 3 + 2) (.slice none 0 0)
        have hg2' : Gr w1 ((wr.setCell ⟨g, o + k * 3 + 2, none⟩ (.slice none 0 0)).alloc (.cells #[.int .i64 (it p k).kind, .int .i64 (it p k).many, .slice A' (it p k).refs.length c'] 47)) := (hgr.step hf2 (fun b hb => by omega)).alloc _
        have hbx := heap_alloc_new (wr.setCell ⟨g, o + k * 3 + 2, none⟩ (.slice none 0 0)) (.cells #[.int .i64 (it p k).kind, .int .i64 (it p k).many, .slice A' (it p k).refs.length c'] 47)
        simp only [size_set] at hbx
        have z0 := (cell_row hbx 0).trans rfl
        have z1 := (cell_row hbx 1).trans rfl
        have z2 := (cell_row hbx 2).trans rfl
        have hki : (k : Int) < (p.length : Int) := by omega
        have hrl := refs_le_wt hlt
        go_wp2
        go_loopw [29] (WitRel w1 wr p K g o c1 k A' c') (fun i _ => (it p k).refs.length - (intOf i).toNat)
        case atStart => exact ⟨0, _, by omega, rfl, by simpa using hout.gr ((Gr.refl _).alloc _), hbx, hg2', by simp⟩
        case round =>
          rename World => wx
          clear hout hbx z0 z1 z2 hg2' cellR frozR q0 q1 q2
          obtain ⟨m, u, hm, rfl, hout, hbx, hgx, hsx⟩ := hrel
          have z0 := (cell_row hbx 0).trans rfl
          by_cases hml : m < (it p k).refs.length
          · obtain ⟨x, hx⟩ := get_lt hml
            obtain ⟨hx0, hx1⟩ := hr _ (it_mem hlt) x (List.mem_of_getElem? hx)
            obtain ⟨r, rfl⟩ : ∃ r : Nat, x = (r : Int) := ⟨x.toNat, by omega⟩
            have hrn : r < cnt p := by omega
            obtain ⟨hro, -, -⟩ := own_spec hrn
            have hgwx := hg1.trans hgx
            obtain ⟨b2, o2, rfl, -, -, hc⟩ := (hrefs.gr hgwx).at_ hml
            have cx := hc _ hx
            obtain ⟨g3, o3, cap3, cur3, he3, -, -, -, -, hc3⟩ := (ho1.gr hgx).at_ (by omega)
            simp only [Value.slice.injEq] at he3
            obtain ⟨rfl, -, rfl⟩ := he3
            have cr := hc3 r _ (intsV_get (owners_getD hrn))
            obtain ⟨b4, o4, A4, c4, he4, -, -, d0, -⟩ := (hp.gr hgwx).at_ hro
            simp only [Option.some.injEq, Addr.mk.injEq, and_true] at he4
            obtain ⟨rfl, rfl⟩ := he4
            have hmi : (m : Int) < ((it p k).refs.length : Int) := by omega
            have hri : (r : Int) < (cnt p : Int) := by omega
            have hoi : ((own p r : Nat) : Int) < (p.length : Int) := by omega
            have Htk := Lib.hid (take_snoc hx)
            have Hro : Hid (witP p K k (r : Int) = (decide ((it p k).kind ≠ K) && decide ((it p (own p r)).kind ≠ K))) := by show _ = _; unfold witP; rw [Int.toNat_natCast]
            clear hc hc3 hx hx0 hx1
            by_cases e1 : (it p k).kind = K
            · have hskip : Hid (witP p K k (r : Int) = false) := by show _ = _; rw [Hro.out]; simp [e1]
              subst e1
              go_wp2
              go_roundw
              case rel =>
                refine ⟨m + 1, u, by omega, by go_num, ?_, hbx, hgx, hsx⟩
                rw [Htk.out, List.filter_append, List.filter_cons, hskip.out]
                simpa using hout
              case measure => simp [intOf]; omega
            · by_cases e2 : (it p (own p r)).kind = K
              · have hskip : Hid (witP p K k (r : Int) = false) := by show _ = _; rw [Hro.out]; simp [e2]
                subst e2
                go_wp2
                go_roundw
                case rel =>
                  refine ⟨m + 1, u, by omega, by go_num, ?_, hbx, hgx, hsx⟩
                  rw [Htk.out, List.filter_append, List.filter_cons, hskip.out]
                  simpa using hout
                case measure => simp [intOf]; omega
              · have n1 : ((it p k).kind != K) = true := by simp [e1]
                have n2 : ((it p (own p r)).kind != K) = true := by simp [e2]
                have htake : Hid (witP p K k (r : Int) = true) := by show _ = _; rw [Hro.out]; simp [e1, e2]
                have E1 := Lib.hid e1
                have E2 := Lib.hid e2
                obtain ⟨⟨cr7, hrow7⟩, hcell7, hfroz7, hgB⟩ := hout.cellAt hkl
                have hout' := hout
                obtain ⟨vs7, -, -, -, how7, hgk7⟩ := hout'
                have hl7 := List.length_filter_le (witP p K k) ((it p k).refs.take m)
                have hlt7 : ((it p k).refs.take m).length ≤ m := by rw [List.length_take]; omega
                obtain ⟨v9, w9, Hr9, ho9, hf9, -, -, -⟩ := app1 (P := Tryz.prog) (t := 29) (ty := 29) elem3 Tryz.underlying29 how7 (.int .i64 (r : Int)) rfl hsx (by omega) (by omega)
                obtain ⟨A9, c9, rfl⟩ := ho9.val
                have hug : ∀ b, u.ownBlock = some b → wr.heap.size ≤ b ∧ ∃ cr', wx.heap[b]? = some (.cells cr' 3 (0, 0)) := fun b hb => ⟨(how7.blk b hb).1, how7.row hb⟩
                have hrow9 := hf9.heap hrow7 (fun e => by obtain ⟨_, cr', h⟩ := hug _ e; exact ne_cells h hrow7 (by decide) rfl)
                have hcell9 : ∃ cv9, w9.cell? ⟨g, o + k * 3 + 2, none⟩ = some cv9 := ⟨u, hf9.cell hcell7 (fun e => by obtain ⟨_, cr', h⟩ := hug _ e; exact ne_cells h hrow7 (by decide) rfl)⟩
                obtain ⟨cv9, hcell9⟩ := hcell9
                have hfroz9 := frozen_row hrow9
                have hmore := hout.more (cur' := (((it p k).refs.take m).filter (witP p K k)) ++ [(r : Int)]) (u' := .slice A9 ((((it p k).refs.take m).filter (witP p K k)).length + 1) c9) (w' := w9) hkl (by simpa [intV] using ho9) hf9
                have hbx9 := hf9.heap hbx (fun e => by obtain ⟨_, cr', h⟩ := hug _ e; exact ne_cells h hbx (by decide) rfl)
                have hg9 : Gr w1 w9 := hgx.step hf9 (fun b hb => by have := (hug b hb).1; have := hgr.size; omega)
                have Hmore := Lib.hid hmore
                clear hmore how7 hl7 hlt7
                go_wp2_with (at_builtin; refine wpList_appended rfl _ _ _ _ rfl rfl rfl Hr9 ?_)
                go_roundw
                case rel =>
                  refine ⟨m + 1, .slice A9 ((((it p k).refs.take m).filter (witP p K k)).length + 1) c9, by omega, by go_num, ?_, (fr_set w9 g _ _).heap hbx9 (by omega), hg9.step (fr_set _ _ _ _) (fun b hb => by omega), by have := hf9.size; rw [size_set]; omega⟩
                  rw [Htk.out, List.filter_append, List.filter_cons, htake.out]
                  simpa using Hmore.out
                case measure => simp [intOf]; omega
          · have hm0 : m = (it p k).refs.length := by omega
            subst hm0
            rw [List.take_length] at hout
            have hdone := hout.done hkl
            rw [hnl] at hdone
            go_wp2
            go_roundw
            case rel =>
              refine ⟨k + 1, by omega, by go_num, ?_, hgx⟩
              rw [← newTo_succ hlt]
              rw [newTo_set hlt] at hdone
              exact hdone
            case measure => simp [intOf]; omega
      · have hk0 : k = p.length := by omega
        subst hk0
        go_wp2
        go_ret
        exact ⟨_, rfl, ⟨_, hown⟩, hg1.trans hgr⟩
end Go.Proofs.YtelfaljidgfphaaGreat
