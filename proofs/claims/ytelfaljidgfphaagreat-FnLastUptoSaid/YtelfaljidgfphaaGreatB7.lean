/-
  The walks of 'Steps' (with its closure), 'valid' and 'Order'.
-/
import Derived.Test.YtelfaljidgfphaaGreatB6
import Derived.Test.YtelfaljidgfphaaGreatP3
namespace Go.Proofs.YtelfaljidgfphaaGreat
open Go.RowKit

def ReadyRel (w1 : World) (p : List It) (dn : List Bool) (k : Nat) (i : Value) (wr : World) : Prop :=
  ∃ r : Nat, r ≤ cnt p ∧ i = .int .i64 r ∧ (∀ s, s < r → (needs p k)[s]? = some true → dn[own p s]? = some true) ∧ Qt w1 wr

set_option maxHeartbeats 1000000 in
set_option maxRecDepth 100000 in
/-- the closure 'ready' of Steps -/
theorem ready_any (w : World) (ok ok' ok'' : Nat → Prop) (A B C : Option Addr) (c d e : Nat) (p : List It) (k b1 b2 b3 : Nat) (dn : List Bool) (hp : Its w ok (.slice A p.length c) p) (hk : KOk p) (hr : ROk p)
    (hl : p.length ≤ 2097152) (hw : wt p ≤ 4194304) (hkl : k < p.length) (hdn : dn.length = p.length) (hd : Bools w ok' (.slice B p.length d) dn) (ho : Ints w ok'' (.slice C (cnt p) e) (ints (owners p)))
    (q1 : w.cell? ⟨b1, 0, none⟩ = some (.slice A p.length c)) (q2 : w.cell? ⟨b2, 0, none⟩ = some (.slice B p.length d)) (q3 : w.cell? ⟨b3, 0, none⟩ = some (.slice C (cnt p) e)) :
    Calls Tryz.prog 56 #[.int .i64 k, .pointer (some ⟨b1, 0, none⟩), .pointer (some ⟨b2, 0, none⟩), .pointer (some ⟨b3, 0, none⟩)] w (PBool w (Rdy p (fun j => dn[j]? = some true) k)) := by
  have hcnt := cnt_le hk
  have hcnt : cnt p ≤ 209715200 := by omega
  go_enter Tryz.func56, Tryz.ntmps56
  go_wp2_with (go_at_call 36; refine (Needs_any w ok _ c p k hp hk hr hl hw hkl).mono ?_; rintro e1 w1 ⟨v1, rfl, ho1, hg1⟩; obtain ⟨A1, c1, rfl⟩ := ho1.val)
  go_loopw [12] (ReadyRel w1 p dn k) (fun i _ => cnt p - (intOf i).toNat)
  case atStart => exact ⟨0, by omega, rfl, by omega, Qt.refl _⟩
  case round =>
    obtain ⟨r, hrc, rfl, hall, hq⟩ := hrel
    have hgr := hg1.trans hq.gr
    by_cases hlt : r < cnt p
    · obtain ⟨hol, hos1, hos2⟩ := own_spec hlt
      obtain ⟨g1, o1, cap1, cur1, he1, -, -, hcap1, -, hc1⟩ := (ho1.gr hq.gr).at_ (by omega)
      simp only [Value.slice.injEq, true_and] at he1
      obtain ⟨rfl, rfl⟩ := he1
      obtain ⟨bb, hb1, hb2⟩ := needs_get p k r hlt
      obtain ⟨b3', o3, rfl, -, -, hof⟩ := Ints.at_ (k := r) (ho.gr hgr) (by simpa [ints, cnt] using hlt)
      have cof := hof (own p r) (by simp [ints, owners_getD hlt])
      obtain ⟨b2', o2, rfl, -, -, hdd⟩ := (hd.gr hgr).at_ (k := own p r) (by omega)
      obtain ⟨dd, hdd'⟩ := get_lt (l := dn) (k := own p r) (by omega)
      have cdd := hdd dd hdd'
      have cn := hc1 r _ (by rw [List.getElem?_map, hb2]; rfl)
      have q2' := hgr.cell q2
      have q3' := hgr.cell q3
      generalize (bb && (it p (own p r)).var) = nn at hb2 cn
      have Hb2 := Lib.hid hb2
      have Hdd := Lib.hid hdd'
      have Hall := Lib.hid hall
      have hoi : (own p r : Int) < (p.length : Int) := by omega
      have hri : (r : Int) < (cnt p : Int) := by omega
      clear hof hdd hc1 hb1 hb2 hdd' hall q1 q2 q3
      cases nn with
      | true =>
        cases dd with
        | true =>
          go_wp2
          go_quiet (fail)
          go_wp2
          go_roundw
          case rel =>
            refine ⟨r + 1, by omega, by go_num, ?_, hq.drewN _⟩
            intro s hs hn
            by_cases es : s = r
            · subst es; exact Hdd.out
            · exact Hall.out s (by omega) hn
          case measure => simp [intOf]; omega
        | false =>
          go_wp2
          go_quiet (fail)
          go_wp2
          go_ret
          refine ⟨false, rfl, ⟨fun h => (by cases h), fun h => ?_⟩, hgr.drewN _⟩
          have h1 : dn[own p r]? = some true := h r Hb2.out
          rw [Hdd.out] at h1
          cases h1
      | false =>
        go_wp2
        go_quiet (fail)
        go_wp2
        go_roundw
        case rel =>
          refine ⟨r + 1, by omega, by go_num, ?_, hq.drewN _⟩
          intro s hs hn
          by_cases es : s = r
          · subst es; rw [Hb2.out] at hn; cases hn
          · exact Hall.out s (by omega) hn
        case measure => simp [intOf]; omega
    · have hr0 : r = cnt p := by omega
      subst hr0
      go_wp2
      go_ret
      refine ⟨true, rfl, ⟨fun _ => ?_, fun _ => rfl⟩, hgr⟩
      intro s hs
      have := (List.getElem?_eq_some_iff.1 hs).1
      exact hall s (by rw [needs_length] at this; exact this) hs
open Classical in
/-- The marks of what is done. -/
noncomputable def dnOf (p : List It) (ord : List Nat) : List Bool := (List.range p.length).map fun j => decide (j ∈ ord)
theorem dnOf_length (p : List It) (ord : List Nat) : (dnOf p ord).length = p.length := by simp [dnOf]
theorem dnOf_get {p : List It} {ord : List Nat} {j : Nat} : (dnOf p ord)[j]? = some true ↔ j < p.length ∧ j ∈ ord := by
  unfold dnOf
  rw [List.getElem?_map]
  by_cases h : j < p.length
  · rw [List.getElem?_range h]; simp [h]
  · rw [List.getElem?_eq_none (by simpa using h)]; simp [h]
theorem dnOf_at {p : List It} {ord : List Nat} {j : Nat} (h : j < p.length) : ∃ b, (dnOf p ord)[j]? = some b ∧ (b = true ↔ j ∈ ord) := by
  obtain ⟨b, hb⟩ := get_lt (l := dnOf p ord) (k := j) (by rw [dnOf_length]; exact h)
  refine ⟨b, hb, ?_⟩
  have := @dnOf_get p ord j
  rw [hb] at this
  simpa [h] using this
theorem dnOf_snoc {p : List It} {ord : List Nat} {k : Nat} (hk : k < p.length) : (dnOf p ord).set k true = dnOf p (ord ++ [k]) := by
  apply List.ext_getElem?
  intro j
  by_cases hj : j < p.length
  · obtain ⟨b, hb, hb'⟩ := dnOf_at (ord := ord ++ [k]) hj
    rw [hb]
    by_cases e : j = k
    · subst e
      rw [List.getElem?_set_self (by rw [dnOf_length]; exact hj)]
      rw [hb'.2 (by simp)]
    · rw [List.getElem?_set_ne (fun h => e h.symm)]
      obtain ⟨b2, hb2, hb2'⟩ := dnOf_at (ord := ord) hj
      rw [hb2]
      congr 1
      rw [Bool.eq_iff_iff, hb', hb2']
      simp [e]
  · rw [List.getElem?_eq_none (by simp [dnOf_length]; omega), List.getElem?_eq_none (by simp [dnOf_length]; omega)]
theorem dnOf_nil (p : List It) : dnOf p [] = List.replicate p.length false := by
  apply List.ext_getElem?
  intro j
  unfold dnOf
  rw [List.getElem?_map, List.getElem?_replicate]
  by_cases hj : j < p.length
  · rw [List.getElem?_range hj]; simp [hj]
  · rw [List.getElem?_eq_none (by simpa using hj)]; simp [hj]

theorem cand_iff {p : List It} {ord : List Nat} {k : Nat} (hk : k < p.length) (hv : (it p k).var = true) (hn : k ∉ ord) : Cand p ord k ↔ Rdy p (fun j => (dnOf p ord)[j]? = some true) k := by
  constructor
  · intro h r hr
    have hrl := (List.getElem?_eq_some_iff.1 hr).1
    rw [needs_length] at hrl
    exact dnOf_get.2 ⟨(own_spec hrl).1, h.2.2.2 r hr⟩
  · intro h
    exact ⟨hk, hv, hn, fun r hr => (dnOf_get.1 (h r hr)).2⟩

theorem size_set (w : World) (p : Addr) (u : Value) : (w.setCell p u).heap.size = w.heap.size := by simp [World.setCell]

/-- What the boxes of Steps hold. -/
def StW (w1 : World) (p : List It) (vof : Value) (ord : List Nat) (wr : World) : Prop :=
  wr.cell? ⟨w1.heap.size, 0, none⟩ = some vof ∧ wr.heap[w1.heap.size + 1]? = some (.cells ((dnOf p ord).map Value.bool).toArray 4 (0, 0)) ∧
    wr.cell? ⟨w1.heap.size + 1 + 1, 0, none⟩ = some (.slice (some ⟨w1.heap.size + 1, 0, none⟩) p.length p.length) ∧ Gr w1 wr

theorem StW.gr {w1 : World} {p : List It} {vof : Value} {ord : List Nat} {wr wr' : World} (h : StW w1 p vof ord wr) (hg : Gr wr wr') : StW w1 p vof ord wr' :=
  ⟨hg.cell h.1, Fr.heap hg h.2.1 id, hg.cell h.2.2.1, h.2.2.2.trans hg⟩
theorem StW.bools {w1 : World} {p : List It} {vof : Value} {ord : List Nat} {wr : World} (h : StW w1 p vof ord wr) : Bools wr (fun _ => True) (.slice (some ⟨w1.heap.size + 1, 0, none⟩) p.length p.length) (dnOf p ord) := by
  have hl := dnOf_length p ord
  refine ⟨by simp, _, _, by rw [hl], by omega, .inr ⟨_, 0, rfl, trivial, heap_lt h.2.1, fun j u hu => ?_⟩⟩
  rw [cell_row h.2.1, Nat.zero_add]
  simpa using hu

def StepsRel (w1 : World) (p : List It) (vof : Value) (gk : Nat) (v : Value) (wr : World) : Prop :=
  ∃ ord, StepsTo p ord ∧ gk = p.length - ord.length ∧ Own wr (fun b => w1.heap.size + 3 ≤ b) 3 1 v ord.length ((ints ord).map intV) ∧ StW w1 p vof ord wr
def StepsRel2 (wo : World) (p : List It) (ord : List Nat) (nx i : Value) (wr : World) : Prop :=
  ∃ k : Nat, k ≤ p.length ∧ nx = .int .i64 (-1) ∧ i = .int .i64 k ∧ (∀ j, j < k → ¬ Cand p ord j) ∧ Gr wo wr
def StepsRel3 (wo : World) (p : List It) (ord : List Nat) (b i : Value) (wr : World) : Prop :=
  ∃ k : Nat, k ≤ p.length ∧ i = .int .i64 k ∧ ∃ c, b = .bool c ∧ (c = false ↔ ∀ j, j < k → (it p j).var = true → j ∈ ord) ∧ Gr wo wr

/-- What Steps tells: the steps, and whether they stop short of some variable. -/
def PSteps (w : World) (p : List It) (e : Ending) (w' : World) : Prop :=
  ∃ v b ord, e = .returned (.tuple #[v, .bool b]) ∧ StepsTo p ord ∧ Stuck p ord ∧ (b = false ↔ Full p ord) ∧ Ints w' (fun _ => True) v (ints ord) ∧ Gr w w'

theorem cyc_next {p : List It} {ord : List Nat} {k : Nat} {bc vv bd : Bool} (hbc : bc = false ↔ ∀ j, j < k → (it p j).var = true → j ∈ ord) (hv : (it p k).var = vv) (hbd : bd = true ↔ k ∈ ord) :
    ((bc || (vv && !bd)) = false ↔ ∀ j, j < k + 1 → (it p j).var = true → j ∈ ord) := by
  constructor
  · intro h j hj hvj
    simp only [Bool.or_eq_false_iff] at h
    by_cases e : j = k
    · subst e
      rw [hv] at hvj
      subst hvj
      simp at h
      exact hbd.1 h.2
    · exact hbc.1 h.1 j (by omega) hvj
  · intro h
    simp only [Bool.or_eq_false_iff]
    refine ⟨hbc.2 fun j hj => h j (by omega), ?_⟩
    cases vv with
    | false => rfl
    | true => simp; exact hbd.2 (h k (by omega) hv)

set_option maxHeartbeats 4000000 in
set_option maxRecDepth 100000 in
theorem Steps_any (w : World) (ok : Nat → Prop) (A : Option Addr) (c : Nat) (p : List It) (hp : Its w ok (.slice A p.length c) p) (hk : KOk p) (hr : ROk p)
    (hl : p.length ≤ 2097152) (hw : wt p ≤ 4194304) :
    Calls Tryz.prog 42 #[.slice A p.length c] w (PSteps w p) := by
  have hcnt := cnt_le hk
  have hcnt : cnt p ≤ 209715200 := by omega
  have hmk := fun u => make_bools u p.length (by omega)
  go_enter Tryz.func42, Tryz.ntmps42
  go_wp2_with (go_at_call 46; refine (owners_any _ ok _ c p (hp.gr ((Gr.refl w).alloc _)) hk hl).mono ?_; rintro e1 w1 ⟨v1, rfl, ho1, hg1⟩; obtain ⟨A1, c1, rfl⟩ := ho1.val; have q0 : w1.cell? ⟨w.heap.size, 0, none⟩ = some (.slice A p.length c) := hg1.cell (cell_row (heap_alloc_new w (.cells #[.slice A p.length c] 26)) 0); have hz : w.heap.size < w1.heap.size := by have := hg1.size; simp at this; omega)
  have hst : StW w1 p (.slice A1 (cnt p) c1) [] (((w1.alloc (.cells #[.slice A1 (cnt p) c1] 29)).alloc (.cells (Array.replicate p.length (.bool false)) 4)).alloc (.cells #[.slice (some ⟨w1.heap.size + 1, 0, none⟩) p.length p.length] 23)) := by
    have e1 := heap_alloc_new w1 (.cells #[.slice A1 (cnt p) c1] 29)
    have e2 := heap_alloc_new (w1.alloc (.cells #[.slice A1 (cnt p) c1] 29)) (.cells (Array.replicate p.length (.bool false)) 4)
    have e3 := heap_alloc_new ((w1.alloc (.cells #[.slice A1 (cnt p) c1] 29)).alloc (.cells (Array.replicate p.length (.bool false)) 4)) (.cells #[.slice (some ⟨w1.heap.size + 1, 0, none⟩) p.length p.length] 23)
    simp only [World.size_alloc] at e2 e3
    refine ⟨((Gr.refl _).alloc _ |>.alloc _).cell (cell_row e1 0), ?_, cell_row e3 0, ((Gr.refl _).alloc _ |>.alloc _).alloc _⟩
    have := Fr.heap ((Gr.refl _).alloc (.cells #[.slice (some ⟨w1.heap.size + 1, 0, none⟩) p.length p.length] 23)) e2 id
    rw [this, dnOf_nil]
    simp
  have hbase : Gr w w1 := ((Gr.refl w).alloc _).trans hg1
  have hp1 := hp.gr hbase
  clear hmk
  go_loopg [2] (p.length) (StepsRel w1 p (.slice A1 (cnt p) c1))
  case atStart => exact ⟨[], .nil, by simp, Own.nil _ _ _ _, hst⟩
  case round =>
    obtain ⟨ord, hS, hgk, hown, hst⟩ := hrel
    obtain ⟨wo, rfl⟩ : ∃ wo : World, wo = wr := ⟨_, rfl⟩
    have hol := hS.length_le
    have q0' := hst.2.2.2.cell q0
    go_wp2
    go_loopw [7, 20] (StepsRel2 wo p ord) (fun _ i _ => p.length - (intOf i).toNat)
    case atStart => exact ⟨0, by omega, rfl, rfl, by omega, Gr.refl _⟩
    case round =>
      obtain ⟨k, hkp, rfl, rfl, hall, hgr⟩ := hrel
      by_cases hlt : k < p.length
      · obtain ⟨b, o, A', c', rfl, -, -, c0, c1', c2, -⟩ := ((hp1.gr hst.2.2.2).gr hgr).at_ hlt
        have hst5 := hst.gr hgr
        obtain ⟨bd, hbd, hbd'⟩ := dnOf_at (ord := ord) hlt
        have qd : wr.cell? ⟨w1.heap.size + 1, k, none⟩ = some (.bool bd) := by rw [cell_row hst5.2.1]; simp [hbd]
        have qb := hst5.2.2.1
        have q05 := hgr.cell q0'
        obtain ⟨vv, hv⟩ : ∃ vv, (it p k).var = vv := ⟨_, rfl⟩
        have Hv := Lib.hid hv
        have Hbd := Lib.hid hbd'
        have Hall := Lib.hid hall
        clear hbd' hbd hv hall
        cases vv with
        | false =>
          go_wp2_with (go_at_call 47; refine (isVar_it p k A' c' _).mono ?_; rintro e w6 ⟨rfl, hg6⟩; simp only [Hv.out])
          go_roundw
          case rel =>
            refine ⟨k + 1, by omega, rfl, by go_num, ?_, (hgr.alloc _).trans hg6⟩
            intro j hj hc
            by_cases e : j = k
            · subst e; have := hc.2.1; rw [Hv.out] at this; cases this
            · exact Hall.out j (by omega) hc
          case measure => simp [intOf]; omega
        | true =>
          cases bd with
          | true =>
            go_wp2_with (go_at_call 47; refine (isVar_it p k A' c' _).mono ?_; rintro e w6 ⟨rfl, hg6⟩; simp only [Hv.out]; have qd6 := (((Gr.refl _).alloc _).trans hg6).cell qd; have qb6 := (((Gr.refl _).alloc _).trans hg6).cell qb; clear qd qb)
            go_roundw
            case rel =>
              refine ⟨k + 1, by omega, rfl, by go_num, ?_, (hgr.alloc _).trans hg6⟩
              intro j hj hc
              by_cases e : j = k
              · subst e; exact hc.2.2.1 (Hbd.out.1 rfl)
              · exact Hall.out j (by omega) hc
            case measure => simp [intOf]; omega
          | false =>
            have hkn : k ∉ ord := fun h => by have := Hbd.out.2 h; cases this
            have Hkn := Lib.hid hkn
            clear hkn
            go_wp2_with (first
              | (go_at_call 47; refine (isVar_it p k A' c' _).mono ?_; rintro e w6 ⟨rfl, hg6⟩; simp only [Hv.out]; have qd6 := (((Gr.refl _).alloc _).trans hg6).cell qd; have qb6 := (((Gr.refl _).alloc _).trans hg6).cell qb; have q06 := (((Gr.refl _).alloc _).trans hg6).cell q05; have hst6 := hst5.gr (((Gr.refl _).alloc _).trans hg6); clear qd qb q05)
              | (go_at_call 56; refine (ready_any w6 _ _ _ _ _ _ c p.length c1 p k w.heap.size (w1.heap.size + 1 + 1) w1.heap.size (dnOf p ord) (hp1.gr hst6.2.2.2) hk hr hl hw hlt (dnOf_length p ord) hst6.bools (ho1.ints.gr hst6.2.2.2) q06 hst6.2.2.1 hst6.1).mono ?_; rintro e w7 ⟨br, rfl, hbr, hg7⟩
                 have Hbr := Lib.hid (hbr.trans (cand_iff hlt Hv.out Hkn.out).symm)
                 have hst7 := hst6.gr hg7
                 have qd7 := hg7.cell qd6
                 have qb7 := hst7.2.2.1
                 have fm7 : w7.frozen? ⟨w1.heap.size + 1, k, none⟩ = false := frozen_row hst7.2.1 k
                 have hown8 := (((hown.gr hgr).gr (((Gr.refl _).alloc _).trans hg6)).gr hg7).fr (fr_set w7 (w1.heap.size + 1) k (.bool true)) (fun b hb e => by have := (hown.blk b hb).1; omega)
                 obtain ⟨v9, w9, Hr, hown9, -, hfr9, -, -⟩ := app1 (P := Tryz.prog) (t := 29) (ty := 29) elem3 Tryz.underlying29 hown8 (.int .i64 (k : Int)) rfl (by rw [size_set]; have := World.block_lt_of_cell? w7 _ qb7; simp at this; omega) (by omega) (by omega)
                 rw [size_set] at Hr
                 clear hbr qd6 qb6 q06
                 cases br)
              | (at_builtin; refine wpList_appended rfl _ _ _ _ rfl rfl rfl Hr ?_))
            · go_roundw
              case rel =>
                refine ⟨k + 1, by omega, rfl, by go_num, ?_, ((hgr.alloc _).trans hg6).trans hg7⟩
                intro j hj hc
                by_cases e : j = k
                · subst e; have := Hbr.out.2 hc; cases this
                · exact Hall.out j (by omega) hc
              case measure => simp [intOf]; omega
            · have hc : Cand p ord k := Hbr.out.1 (by trivial)
              go_roundg (p.length - (ord ++ [k]).length)
              case measure => have := (StepsTo.snoc hS hc Hall.out).length_le; simp at this ⊢; omega
              case rel =>
                refine ⟨ord ++ [k], StepsTo.snoc hS hc Hall.out, rfl, ?_, ?_, ?_, ?_, ?_⟩
                · rw [intsV_snoc, List.length_append]; exact hown9
                · exact Fr.cell hfr9 (Fr.cell (fr_set w7 _ _ _) hst7.1 (by simp)) (by simp)
                · refine Fr.heap hfr9 ?_ (by simp)
                  rw [← dnOf_snoc hlt]
                  simp [World.setCell, Array.getElem?_modify, hst7.2.1, List.map_set]
                · exact Fr.cell hfr9 (Fr.cell (fr_set w7 _ _ _) qb7 (by simp)) (by simp)
                · exact (hst7.2.2.2.step (fr_set w7 _ _ _) (fun b hb => by omega)).step hfr9 (fun b hb => by omega)
      · have hk0 : k = p.length := by omega
        subst hk0
        have hstuck : Stuck p ord := fun j hc => hall j hc.1 hc
        have Hstuck := Lib.hid hstuck
        clear hstuck hall
        have hstr := hst.gr hgr
        have q0r := hgr.cell q0'
        go_wp2
        go_loopw [3, 52] (StepsRel3 wo p ord) (fun _ i _ => p.length - (intOf i).toNat)
        case atStart => exact ⟨0, by omega, rfl, false, rfl, ⟨fun _ => by omega, fun _ => rfl⟩, hgr⟩
        case round =>
          rename World => w5
          obtain ⟨k, hkp, rfl, bc, rfl, hbc, hgr⟩ := hrel
          by_cases hlt : k < p.length
          · obtain ⟨b, o, A', c', rfl, -, -, c0, c1, c2, -⟩ := ((hp1.gr hst.2.2.2).gr hgr).at_ hlt
            have hst5 := hst.gr hgr
            obtain ⟨bd, hbd, hbd'⟩ := dnOf_at (ord := ord) hlt
            have qd : w5.cell? ⟨w1.heap.size + 1, k, none⟩ = some (.bool bd) := by rw [cell_row hst5.2.1]; simp [hbd]
            have qb := hst5.2.2.1
            have hz5 := hst5.2.2.2.size
            have hl5 := heap_lt hst5.2.1
            have hb5 : w1.heap.size + 1 + 1 < w5.heap.size := World.block_lt_of_cell? w5 _ qb
            obtain ⟨vv, hv⟩ : ∃ vv, (it p k).var = vv := ⟨_, rfl⟩
            have Hn := Lib.hid (cyc_next hbc hv hbd')
            have Hv := Lib.hid hv
            clear hbc hbd' hbd hv
            cases bc with
            | true =>
              go_wp2
              go_roundw
              case rel => exact ⟨k + 1, by omega, by go_num, true, rfl, by simpa using Hn.out, hgr.alloc _⟩
              case measure => simp [intOf]; omega
            | false =>
              cases vv <;> cases bd <;>
                (go_wp2_with (go_at_call 47; refine (isVar_it p k A' c' _).mono ?_; rintro e w6 ⟨rfl, hg6⟩; simp only [Hv.out]; have qd6 := (((Gr.refl _).alloc _).trans hg6).cell qd; have qb6 := (((Gr.refl _).alloc _).trans hg6).cell qb; clear qd qb)
                 go_roundw
                 case rel => exact ⟨k + 1, by omega, by go_num, _, rfl, by simpa using Hn.out, (hgr.alloc _).trans hg6⟩
                 case measure => simp [intOf]; omega)
          · have hk0 : k = p.length := by omega
            subst hk0
            have hvf := hown.arr
            go_wp2
            go_ret2
            exact ⟨_, bc, ord, rfl, hS, Hstuck.out, hbc, (hown.gr hgr).ints.mono (fun _ _ _ => trivial), (hbase.trans hst.2.2.2).trans hgr⟩

set_option maxHeartbeats 1000000 in
/-- 'valid(p)' -/
theorem valid_any (w : World) (ok : Nat → Prop) (A : Option Addr) (c : Nat) (p : List It) (hp : Its w ok (.slice A p.length c) p) (hw : wt p ≤ 4194304) :
    Calls Tryz.prog 18 #[.slice A p.length c] w (PBool w (Valid p)) := by
  go_enter Tryz.func18, Tryz.ntmps18
  go_wp2_with (go_at_call 35; refine (Fit_any w ok A c p hp hw).mono ?_; rintro e w1 ⟨b1, rfl, hb1, hg1⟩; have Hb1 := Lib.hid hb1; clear hb1; cases b1)
  · go_ret
    exact ⟨false, rfl, ⟨fun h => (by cases h), fun h => by have := Hb1.out.2 h.1; cases this⟩, hg1⟩
  · have hf : Fit p := Hb1.out.1 (by trivial)
    have Hf := Lib.hid hf
    have hk := hf.2.1
    have hr := hf.2.2.1
    have hl : p.length ≤ 2097152 := by have := hf.1; omega
    clear hf
    go_wp2_with (go_at_call 42; refine (Steps_any w1 ok A c p (hp.gr hg1) hk hr hl hw).mono ?_; rintro e w2 ⟨v2, b2, ord, rfl, hS, hst, hb2, hi2, hg2⟩; have Hb2 := Lib.hid hb2; have Hst := Lib.hid hst; clear hb2 hst; cases b2)
    · go_ret
      exact ⟨true, rfl, ⟨fun _ => ⟨Hf.out, ord, hS, Hb2.out.1 (by trivial)⟩, fun _ => rfl⟩, hg1.trans hg2⟩
    · go_ret
      refine ⟨false, rfl, ⟨fun h => (by cases h), fun h => ?_⟩, hg1.trans hg2⟩
      have := Hb2.out.2 ((valid_iff hS Hst.out).1 h.2)
      cases this

/-- The initializers in the order of the steps. -/
def iniOf (p : List It) (ord : List Nat) : List (List Nat) := (ord.filter fun k => (it p k).kind != 2).map (objs p)
theorem iniOf_snoc (p : List It) (ord : List Nat) (k : Nat) : iniOf p (ord ++ [k]) = iniOf p ord ++ (if (it p k).kind != 2 then [objs p k] else []) := by
  unfold iniOf
  rw [List.filter_append, List.map_append]
  congr 1
  simp only [List.filter_cons, List.filter_nil]
  split <;> simp
theorem iniOf_length (p : List It) (ord : List Nat) : (iniOf p ord).length ≤ ord.length := by
  unfold iniOf
  rw [List.length_map]
  exact List.length_filter_le _ _

theorem Ints.valN {w : World} {ok : Nat → Prop} {v : Value} {l : List Int} {n : Nat} (h : Ints w ok v l) (hn : l.length = n) : ∃ A c, v = .slice A n c := by subst hn; exact h.val
theorem ints_length (l : List Nat) : (ints l).length = l.length := by simp [ints]

def OrderRel (w1 : World) (p : List It) (ord : List Nat) (v i : Value) (wr : World) : Prop :=
  ∃ k : Nat, k ≤ ord.length ∧ i = .int .i64 k ∧ OwnLists wr w1.heap.size v (lists (iniOf p (ord.take k))) ∧ Gr w1 wr

set_option maxHeartbeats 1000000 in
/-- 'p.Order()' -/
theorem Order_any (w : World) (ok : Nat → Prop) (A : Option Addr) (c : Nat) (p : List It) (hp : Its w ok (.slice A p.length c) p) (hk : KOk p) (hr : ROk p)
    (hl : p.length ≤ 2097152) (hw : wt p ≤ 4194304) :
    Calls Tryz.prog 33 #[.slice A p.length c] w (PVal fun v w' => ∃ ord, StepsTo p ord ∧ Stuck p ord ∧ OwnLists w' w.heap.size v (lists (iniOf p ord)) ∧ Gr w w') := by
  have hpc := hp.cap
  go_enter Tryz.func33, Tryz.ntmps33
  go_wp2_with (go_at_call 42; refine (Steps_any w ok A c p hp hk hr hl hw).mono ?_; rintro e w1 ⟨v1, b1, ord, rfl, hS, hst, hb1, hi1, hg1⟩; clear hb1; obtain ⟨A1, c1, rfl⟩ := hi1.valN (ints_length ord))
  have hol := hS.length_le
  have Hst := Lib.hid hst
  clear hst
  go_loopw [3, 15] (OrderRel w1 p ord) (fun _ i _ => ord.length - (intOf i).toNat)
  case atStart => exact ⟨0, by omega, rfl, OwnLists.nil _ _, Gr.refl _⟩
  case round =>
    obtain ⟨k, hkp, rfl, hown, hgr⟩ := hrel
    by_cases hlt : k < ord.length
    · obtain ⟨x, hx⟩ := get_lt hlt
      obtain ⟨b1, o1, rfl, -, -, hc⟩ := (hi1.gr hgr).at_ (k := k) (by rw [ints_length]; omega)
      have cx := hc (x : Int) (by simp [ints, hx])
      have hxl := (hS.lt x (List.mem_of_getElem? hx)).1
      obtain ⟨b, o, A', c', rfl, -, -, c0, c1', c2, -⟩ := (hp.gr (hg1.trans hgr)).at_ hxl
      have hxi : (x : Int) < (p.length : Int) := by omega
      have Hsn : Hid (iniOf p (ord.take (k + 1)) = iniOf p (ord.take k) ++ (if (it p x).kind != 2 then [objs p x] else [])) := by
        show _ = _
        rw [take_snoc hx, iniOf_snoc]
      have hil2 := iniOf_length p (ord.take k)
      rw [List.length_take] at hil2
      have Hcall := Lib.hid (Objects_any wr ok _ c p x (hp.gr (hg1.trans hgr)) hpc hk hl hxl)
      clear hc hx
      cases hkd : ((it p x).kind != 2) with
      | true =>
        have Hkd := Lib.hid hkd
        have hkd' : (((it p x).kind != 2) = true) := hkd
        clear hkd
        go_wp2_with (first | (go_at_call 31; refine Hcall.out.mono ?_; rintro e w2 ⟨v2, rfl, ho2, hg2⟩; obtain ⟨A2, cc2, rfl⟩ := ho2.val; obtain ⟨v4, w4, Hr, hown4, hfr4, -⟩ := OwnLists.push (t := 32) (ty := 32) (hown.gr hg2) (x := ints (objs p x)) (ho2.ints.mono (fun b _ hb e => by have := hown.lt b e; omega)) Tryz.underlying32 (by have := (hgr.trans hg2).size; omega) (by rw [lists_length]; omega)) | (at_builtin; refine wpList_appended rfl _ _ _ _ rfl rfl rfl Hr ?_))
        go_roundw
        case rel =>
          refine ⟨k + 1, by omega, by go_num, ?_, (hgr.trans hg2).own hfr4 (Nat.le_refl _)⟩
          rw [Hsn.out, Hkd.out, if_pos rfl, lists_snoc]
          exact hown4
        case measure => simp [intOf]; omega
      | false =>
        have Hkd := Lib.hid hkd
        have hkd' : (((it p x).kind != 2) = false) := hkd
        clear hkd
        go_wp2
        go_roundw
        case rel =>
          refine ⟨k + 1, by omega, by go_num, ?_, hgr⟩
          rw [Hsn.out, Hkd.out, if_neg (by simp), List.append_nil]
          exact hown
        case measure => simp [intOf]; omega
    · have hk0 : k = ord.length := by omega
      subst hk0
      rw [List.take_length] at hown
      go_wp2
      go_ret
      obtain ⟨vs, h1, h2, h3⟩ := hown
      exact ⟨_, rfl, ord, hS, Hst.out, ⟨vs, h1, h2.mono (fun b _ _ hb => by have := hg1.size; omega), h3⟩, hg1.trans hgr⟩

end Go.Proofs.YtelfaljidgfphaaGreat
