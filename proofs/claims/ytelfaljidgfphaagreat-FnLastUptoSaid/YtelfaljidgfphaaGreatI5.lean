/-
  The walk of 'build' (package initorder).
-/
import Derived.Test.YtelfaljidgfphaaGreatI4
import Derived.StillTailTactics
namespace Go.Proofs.YtelfaljidgfphaaGreat
open Go.RowKit

theorem info108 : (Tryz.prog.info? 108).map (fun i => (i.zero, i.size, i.bytes)) = some (some .nilIface, 1, 16) := by kernel_rfl
theorem make_objs (u : World) (N : Nat) (hN : N ≤ 1099511627776) : (Instr.makeSlice 73 (.int .i64 (N : Int)) (.int .i64 (N : Int))).run Tryz.prog u =
    .ok (.slice (some ⟨u.heap.size, 0, none⟩) N N) (u.alloc (.cells (Array.replicate N Value.nilIface) 108)) := by
  obtain ⟨i0, hi, hz0, hz1, hz2⟩ := info_parts info108
  have h := run_make (P := Tryz.prog) u 73 108 i0 .nilIface Tryz.underlying73 hi hz0 .i64 .i64 (N : Int) (N : Int) (by omega) (Int.le_refl _) (by rw [hz2]; omega) (by omega)
  rw [h, hz1]
  simp only [Int.toNat_natCast, Nat.mul_one, Value.cells, madeCells_one]

theorem info102 : (Tryz.prog.info? 102).map (fun i => (i.zero, i.size, i.bytes)) = some (some (.pointer none), 1, 8) := by kernel_rfl
theorem elem102 : ElemOk Tryz.prog 102 (.pointer none) 1 8 := ElemOk.mk' info102 rfl (by decide)

/-- A step that besides turns blocks that were laid since. -/
theorem Fr.step {S S' : Nat → Prop} {a b c : World} (h : Fr S a b) (k : Fr S' b c) (hs : ∀ i, i < a.heap.size → S' i → S i) : Fr S a c :=
  ⟨k.os.trans h.os, k.tape.trans h.tape, k.output.trans h.output, Nat.le_trans h.size k.size, fun i hi hn => (k.block i (Nat.lt_of_lt_of_le hi h.size) (fun hc => hn (hs i hi hc))).trans (h.block i hi hn)⟩

theorem Lr.start (w : World) (B : Nat) (p : List It) (m L om gm : Nat) (hL : w.heap[L]? = some (.cells (Array.replicate m Value.nilIface) 108 (0, 0))) (ho : w.heap[om]? = some (.map #[] 0)) (hg : w.heap[gm]? = some (.map #[] 0)) (hne : om ≠ gm) :
    Lr B p m L om gm ⟨fun _ => 0, fun _ => 0, fun _ => 0, fun _ => .slice none 0 0⟩ 0 0 0 w where
  obj i hi := by omega
  objGe i hi := by omega
  objInj i j hi := by omega
  row := ⟨_, hL, by simp, fun i hi => by omega⟩
  dcl k hk := absurd hk.2 (by omega)
  dclGe k hk := absurd hk.2 (by omega)
  dclInj k l hk := absurd hk.2 (by omega)
  dep k hk := absurd hk.2 (by omega)
  depGe k hk := absurd hk.2 (by omega)
  depInj k l hk := absurd hk.2 (by omega)
  lone k hk := absurd hk.2 (by omega)
  lhs k hk := absurd hk.2 (by omega)
  lhsSep k l hk := absurd hk.2 (by omega)
  omap := ⟨List.nodup_nil, by simp, #[], 0, ho, by simp, by simp, by simp, by simp⟩
  gmap := ⟨[], ⟨List.nodup_nil, by simp, #[], 0, hg, by simp, by simp, by simp, by simp⟩, fun k => by simp [Started]⟩
  two := hne
  maps k hk := absurd hk.2 (by omega)

def BuildRel (w : World) (p : List It) (L om gm ib cb : Nat) (i : Value) (wr : World) : Prop :=
  ∃ r : Nat, r ≤ cnt p ∧ i = .int .i64 (r : Int) ∧ Gr w wr ∧ wr.heap[ib]? = some (.cells #[.slice none 0 0] 97 (0, 0)) ∧ wr.heap[cb]? = some (.cells #[.map (some om), .pointer (some ⟨ib, 0, none⟩), .slice none 0 0] 82 (0, 0)) ∧ ∃ g, Lr w.heap.size p (cnt p) L om gm g r r r wr

/-- What 'build' has laid. -/
structure Built (B : Nat) (p : List It) (L om : Nat) (g : Gh) (ks : Nat → List Nat) (w : World) : Prop where
  obj : ∀ i, i < cnt p → w.heap[g.ob i]? = some (.cells #[.string ⟨#[]⟩, .int .u32 (i : Int), .int .i64 (i : Int)] (tyE p i) (0, 0))
  objGe : ∀ i, i < cnt p → B ≤ g.ob i
  objInj : ∀ i j, i < cnt p → j < cnt p → g.ob i = g.ob j → i = j
  row : ∃ ls : Array Value, w.heap[L]? = some (.cells ls 108 (0, 0)) ∧ ls.size = cnt p ∧ ∀ i, i < cnt p → ls[i]? = some (g.enc p i)
  dcl : ∀ k, k < p.length → w.heap[g.dc k]? = some (.cells #[g.lh k, .bool (it p k).ini, .map (some (g.dm k))] 115 (0, 0))
  dclGe : ∀ k, k < p.length → B ≤ g.dc k
  dclInj : ∀ k l, k < p.length → l < p.length → g.dc k = g.dc l → k = l
  dep : ∀ k, k < p.length → NMap w (g.dm k) (g.enc p) (cnt p) (ks k) (fun _ => .bool true)
  depGe : ∀ k, k < p.length → B ≤ g.dm k
  depInj : ∀ k l, k < p.length → l < p.length → g.dm k = g.dm l → k = l
  lone : ∀ k, k < p.length → (it p k).kind ≠ 1 → g.lh k = .slice none 0 0
  lhs : ∀ k, k < p.length → (it p k).kind = 1 → Own w (fun b => B ≤ b) 102 1 (g.lh k) (it p k).n ((objs p k).map fun r => ptr (g.ob r))
  omap : NMap w om (g.enc p) (cnt p) (List.range (cnt p)) (fun i => ptr (g.dc (own p i)))
  maps : ∀ k, k < p.length → g.dm k ≠ om

theorem Built.keyOk {B : Nat} {p : List It} {L om : Nat} {g : Gh} {ks : Nat → List Nat} {w : World} (h : Built B p L om g ks w) : KeyOk Tryz.prog w 108 (g.enc p) (cnt p) :=
  keyOk_ifc Tryz.underlying108 (fun r _ => ptr_tyI p r) (fun r hr => ⟨_, _, h.obj r hr⟩) h.objInj

theorem Lr.built {B : Nat} {p : List It} {L om gm : Nat} {g : Gh} {w : World} (h : Lr B p (cnt p) L om gm g (cnt p) (cnt p) (cnt p) w) (hK : KOk p) : ∃ ks, Built B p L om g ks w ∧ ks = fun _ => [] := by
  have hst : ∀ k, k < p.length → Started p k (cnt p) := fun k hk => ⟨hk, by have := start_lt (p := p) (k := k) (j := 0) hk (by have := (n_pos hK (it_mem hk)).1; omega); omega⟩
  have hln : ∀ k, k < p.length → laidN p k (cnt p) = (it p k).n := fun k hk => by
    have h1 := start_succ (it_get hk)
    have h2 := start_mono (p := p) (j := k + 1) (k := p.length) (by omega) (Nat.le_refl _)
    rw [start_length] at h2
    unfold laidN
    omega
  refine ⟨_, ?_, rfl⟩
  exact {
    obj := h.obj
    objGe := h.objGe
    objInj := h.objInj
    row := h.row
    dcl := fun k hk => h.dcl k (hst k hk)
    dclGe := fun k hk => h.dclGe k (hst k hk)
    dclInj := fun k l hk hl => h.dclInj k l (hst k hk) (hst l hl)
    dep := fun k hk => ⟨List.nodup_nil, by simp, #[], 0, h.dep k (hst k hk), by simp, by simp, by simp, by simp⟩
    depGe := fun k hk => h.depGe k (hst k hk)
    depInj := fun k l hk hl => h.depInj k l (hst k hk) (hst l hl)
    lone := fun k hk => h.lone k (hst k hk)
    lhs := fun k hk h1 => by
      have := h.lhs k (hst k hk) h1
      rw [hln k hk] at this
      exact this
    omap := h.omap
    maps := fun k hk => (h.maps k (hst k hk)).2 }

theorem Built.gr {B : Nat} {p : List It} {L om : Nat} {g : Gh} {ks : Nat → List Nat} {w w' : World} (h : Built B p L om g ks w) (hg : Gr w w') : Built B p L om g ks w' where
  obj i hi := Fr.heap hg (h.obj i hi) id
  objGe := h.objGe
  objInj := h.objInj
  row := by
    obtain ⟨ls, h1, h2⟩ := h.row
    exact ⟨ls, Fr.heap hg h1 id, h2⟩
  dcl k hk := Fr.heap hg (h.dcl k hk) id
  dclGe := h.dclGe
  dclInj := h.dclInj
  dep k hk := (h.dep k hk).fr hg id
  depGe := h.depGe
  depInj := h.depInj
  lone := h.lone
  lhs k hk h1 := (h.lhs k hk h1).gr hg
  omap := h.omap.fr hg id
  maps := h.maps

/-- What 'build' returns: the checker at cb, the row of the objects at L. -/
def PBuilt (w : World) (p : List It) (e : Ending) (w' : World) : Prop :=
  ∃ cb ib om L g ks, e = .returned (.tuple #[.pointer (some ⟨cb, 0, none⟩), .slice (some ⟨L, 0, none⟩) (cnt p) (cnt p)]) ∧ w.heap.size ≤ cb ∧ w.heap.size ≤ ib ∧ w.heap.size ≤ om ∧ w.heap.size ≤ L ∧
    w'.heap[cb]? = some (.cells #[.map (some om), .pointer (some ⟨ib, 0, none⟩), .slice none 0 0] 82 (0, 0)) ∧ w'.heap[ib]? = some (.cells #[.slice none 0 0] 97 (0, 0)) ∧ Built w.heap.size p L om g ks w' ∧
    (∀ k d, k < p.length → (d ∈ ks k ↔ (d : Int) ∈ (it p k).refs)) ∧ Gr w w'

/-- One dependency more. -/
theorem Built.put {B : Nat} {p : List It} {L om : Nat} {g : Gh} {ks : Nat → List Nat} {w w' : World} (h : Built B p L om g ks w) {k d : Nat} (hk : k < p.length) (hf : Fr (fun b => b = g.dm k) w w')
    (hn : NMap w' (g.dm k) (g.enc p) (cnt p) (putKs (ks k) d) (putVal (fun _ => .bool true) d (.bool true))) : Built B p L om g (fun j => if j = k then putKs (ks k) d else ks j) w' where
  obj i hi := hf.heap (h.obj i hi) (fun e => (h.dep k hk).ne (h.obj i hi) e.symm)
  objGe := h.objGe
  objInj := h.objInj
  row := by
    obtain ⟨ls, h1, h2⟩ := h.row
    exact ⟨ls, hf.heap h1 (fun e => (h.dep k hk).ne h1 e.symm), h2⟩
  dcl l hl := hf.heap (h.dcl l hl) (fun e => (h.dep k hk).ne (h.dcl l hl) e.symm)
  dclGe := h.dclGe
  dclInj := h.dclInj
  dep l hl := by
    by_cases e : l = k
    · subst e
      simp only [if_true]
      exact hn.congr (fun _ _ => rfl) (fun j _ => by simp [putVal]) hn.2.1
    · simp only [if_neg e]
      exact (h.dep l hl).fr hf (fun e' => e (h.depInj _ _ hl hk e'))
  depGe := h.depGe
  depInj := h.depInj
  lone := h.lone
  lhs l hl h1 := (h.lhs l hl h1).fr hf (fun b hb e => by obtain ⟨cur, hc⟩ := (h.lhs l hl h1).row hb; exact (h.dep k hk).ne hc e.symm)
  omap := h.omap.fr hf (fun e => h.maps k hk e.symm)
  maps := h.maps

def BuildRel2 (w : World) (p : List It) (L om ib cb : Nat) (g : Gh) (i : Value) (wr : World) : Prop :=
  ∃ r : Nat, r ≤ cnt p ∧ i = .int .i64 (r : Int) ∧ ∃ ks, Gr w wr ∧ wr.heap[ib]? = some (.cells #[.slice none 0 0] 97 (0, 0)) ∧ wr.heap[cb]? = some (.cells #[.map (some om), .pointer (some ⟨ib, 0, none⟩), .slice none 0 0] 82 (0, 0)) ∧ Built w.heap.size p L om g ks wr ∧
    (∀ k d, d ∈ ks k → (d : Int) ∈ (it p k).refs) ∧ ∀ i', i' < r → ∀ d : Nat, (d : Int) ∈ (it p (own p i')).refs → d ∈ ks (own p i')
def BuildRel3 (w : World) (p : List It) (L om ib cb : Nat) (g : Gh) (r : Nat) (i : Value) (wr : World) : Prop :=
  ∃ j : Nat, j ≤ (it p (own p r)).refs.length ∧ i = .int .i64 (j : Int) ∧ ∃ ks, Gr w wr ∧ wr.heap[ib]? = some (.cells #[.slice none 0 0] 97 (0, 0)) ∧ wr.heap[cb]? = some (.cells #[.map (some om), .pointer (some ⟨ib, 0, none⟩), .slice none 0 0] 82 (0, 0)) ∧ Built w.heap.size p L om g ks wr ∧
    (∀ k d, d ∈ ks k → (d : Int) ∈ (it p k).refs) ∧ (∀ i', i' < r → ∀ d : Nat, (d : Int) ∈ (it p (own p i')).refs → d ∈ ks (own p i')) ∧ ∀ d : Nat, (d : Int) ∈ (it p (own p r)).refs.take j → d ∈ ks (own p r)

set_option maxHeartbeats 2000000 in
set_option maxRecDepth 100000 in
theorem build_any (w : World) (ok : Nat → Prop) (A : Option Addr) (c : Nat) (p : List It) (hp : Nds w ok (.slice A (cnt p) c) (nodesOf p (cnt p))) (hk : KOk p) (hr : ROk p) (hl : p.length ≤ 2097152) (hw : ∀ k, k < p.length → (it p k).refs.length ≤ 1099511627776) :
    Calls Tryz.prog 58 #[.slice A (cnt p) c] w (PBuilt w p) := by
  have hcnt := cnt_le hk
  have hcnt : cnt p ≤ 209715200 := by omega
  have hmk := fun u => make_objs u (cnt p) (by omega)
  have hm109 := fun u => run_makeMap (P := Tryz.prog) 109 u
  have hm78 := fun u => run_makeMap (P := Tryz.prog) 78 u
  have hm113 := fun u => run_makeMap (P := Tryz.prog) 113 u
  go_enter Tryz.func58, Tryz.ntmps58
  go_wp2
  go_loopw [26] (BuildRel w p w.heap.size (w.heap.size + 1 + 1) (w.heap.size + 1) (w.heap.size + 1 + 1 + 1) (w.heap.size + 1 + 1 + 1 + 1)) (fun i _ => cnt p - (intOf i).toNat)
  case atStart =>
    refine ⟨0, by omega, rfl, ((((Gr.refl w).alloc _).alloc _).alloc _).alloc _ |>.alloc _, ?_, ?_, _, Lr.start _ _ _ _ _ _ _ ?_ ?_ ?_ (by omega)⟩
    · rw [heap_alloc_old _ _ (by simp)]; exact (by simpa using heap_alloc_new (((w.alloc (.cells (Array.replicate (cnt p) Value.nilIface) 108)).alloc (.map #[] 0)).alloc (.map #[] 0)) (.cells #[.slice none 0 0] 97))
    · have := heap_alloc_new ((((w.alloc (.cells (Array.replicate (cnt p) Value.nilIface) 108)).alloc (.map #[] 0)).alloc (.map #[] 0)).alloc (.cells #[.slice none 0 0] 97)) (.cells #[.map (some (w.heap.size + 1 + 1)), .pointer (some ⟨w.heap.size + 1 + 1 + 1, 0, none⟩), .slice none 0 0] 82)
      simp only [World.size_alloc] at this
      exact this
    · rw [heap_alloc_old _ _ (by simp <;> omega), heap_alloc_old _ _ (by simp <;> omega), heap_alloc_old _ _ (by simp <;> omega), heap_alloc_old _ _ (by simp)]; exact heap_alloc_new _ _
    · rw [heap_alloc_old _ _ (by simp), heap_alloc_old _ _ (by simp)]; have := heap_alloc_new ((w.alloc (.cells (Array.replicate (cnt p) Value.nilIface) 108)).alloc (.map #[] 0)) (.map #[] 0); simp only [World.size_alloc] at this; exact this
    · rw [heap_alloc_old _ _ (by simp <;> omega), heap_alloc_old _ _ (by simp), heap_alloc_old _ _ (by simp)]; have := heap_alloc_new (w.alloc (.cells (Array.replicate (cnt p) Value.nilIface) 108)) (.map #[] 0); simp only [World.size_alloc] at this; exact this
  case round =>
    obtain ⟨r, hrc, rfl, hgr, hib, hcb, g, hL⟩ := hrel
    by_cases hlt : r < cnt p
    · obtain ⟨b, o, A', c', rfl, -, -, c0, c1, c2, c3, c4, hi⟩ := (hp.gr hgr).at_ (nodesOf_get hlt)
      obtain ⟨hk1, hk2, hk3⟩ := own_spec hlt
      rcases kway hk (it_mem hk1) with ⟨h0, h3, h4, h1, hm, hn1, e1, e2, e3⟩ | ⟨h0, h3, h4, h1, hm, hm', e1, e2, e3⟩ | ⟨h0, h3, h4, h1, hm, hn1, e1, e2, e3⟩ | ⟨h0, h3, h4, h1, hm, hn1, e1, e2, e3⟩ | ⟨h0, h3, h4, h1, hm, hn1, e1, e2, e3⟩
      -- var
      · have hnd : ndOf p r = ⟨1, r, true, 0, (it p (own p r)).refs⟩ := by
          show Nd.mk _ _ _ _ _ = _
          rw [e1.out, e2.out, if_neg e3.out]
        rw [hnd] at c0 c1 c2 c3 c4 hi
        have hty : tyI p r = 102 ∧ tyE p r = 106 := by simp at h3 h4; simp [tyI, tyE, h3, h4]
        have hst : start p (own p r) = r := by omega
        obtain ⟨ls, hl1, hl2, hl3⟩ := hL.row
        obtain ⟨lsr, hlsr⟩ : ∃ u, ls[r]? = some u := ⟨ls[r]'(by omega), Array.getElem?_eq_getElem (by omega)⟩
        have hg3 : Gr wr (((wr.alloc (.cells #[.int .i64 1, .int .u32 (r : Int), .bool true, .int .i64 0, .slice A' (it p (own p r)).refs.length c'] 94)).alloc (.cells #[.string ⟨#[]⟩, .int .u32 (r : Int), .int .i64 (r : Int)] 104)).alloc (.cells #[.string ⟨#[]⟩, .int .u32 (r : Int), .int .i64 (r : Int)] 106)) := ((Gr.refl wr).alloc _).alloc _ |>.alloc _
        have hob := heap_alloc_new ((wr.alloc (.cells #[.int .i64 1, .int .u32 (r : Int), .bool true, .int .i64 0, .slice A' (it p (own p r)).refs.length c'] 94)).alloc (.cells #[.string ⟨#[]⟩, .int .u32 (r : Int), .int .i64 (r : Int)] 104)) (.cells #[.string ⟨#[]⟩, .int .u32 (r : Int), .int .i64 (r : Int)] 106)
        simp only [World.size_alloc] at hob
        have hsz := hgr.size
        have hLlt := heap_lt hl1
        have hcL3 := hg3.cell ((cell_row hl1 r).trans hlsr)
        have hl13 := Fr.heap hg3 hl1 id
        have hfL3 := frozen_row hl13 r
        go_wp2
        have hf4 : Fr (fun b => b = w.heap.size) wr _ := Fr.trans (Fr.mono hg3 (fun _ _ h => h.elim)) (fr_set _ w.heap.size r (ifc 102 (wr.heap.size + 1 + 1)))
        have hL4 := hL.addObj hf4 (b0 := wr.heap.size + 1 + 1) (by omega) (by omega) (Nat.le_refl _)
          (by rw [hty.2]; exact (Below.heap_setCell _ _ _ _ (by simp; omega)).trans hob) (fun ls' h' => by rw [hty.1]; exact heap_setCell_same _ _ _ _ _ _ (Fr.heap hg3 h' id)) hlt (Nat.le_refl _)
        have hg5 := ((Gr.refl (World.setCell (((wr.alloc (.cells #[.int .i64 1, .int .u32 (r : Int), .bool true, .int .i64 0, .slice A' (it p (own p r)).refs.length c'] 94)).alloc (.cells #[.string ⟨#[]⟩, .int .u32 (r : Int), .int .i64 (r : Int)] 104)).alloc (.cells #[.string ⟨#[]⟩, .int .u32 (r : Int), .int .i64 (r : Int)] 106)) ⟨w.heap.size, r, none⟩ (ifc 102 (wr.heap.size + 1 + 1)))).alloc (.map #[] 0)).alloc (.cells #[.slice none 0 0, .bool true, .map (some (wr.heap.size + 1 + 1 + 1))] 115)
        have hL5 := hL4.addDecl hk hlt hst (by simp; omega) (Fr.mono hg5 (fun _ _ h => h.elim)) (c0 := wr.heap.size + 1 + 1 + 1 + 1) (m0 := wr.heap.size + 1 + 1 + 1) (lh0 := .slice none 0 0) (by simp) (by simp)
          (by rw [e2.out]; have := heap_alloc_new ((World.setCell (((wr.alloc (.cells #[.int .i64 1, .int .u32 (r : Int), .bool true, .int .i64 0, .slice A' (it p (own p r)).refs.length c'] 94)).alloc (.cells #[.string ⟨#[]⟩, .int .u32 (r : Int), .int .i64 (r : Int)] 104)).alloc (.cells #[.string ⟨#[]⟩, .int .u32 (r : Int), .int .i64 (r : Int)] 106)) ⟨w.heap.size, r, none⟩ (ifc 102 (wr.heap.size + 1 + 1))).alloc (.map #[] 0)) (.cells #[.slice none 0 0, .bool true, .map (some (wr.heap.size + 1 + 1 + 1))] 115); simp only [World.size_alloc, size_set] at this; exact this)
          (by rw [heap_alloc_old _ _ (by simp)]; have := heap_alloc_new (World.setCell (((wr.alloc (.cells #[.int .i64 1, .int .u32 (r : Int), .bool true, .int .i64 0, .slice A' (it p (own p r)).refs.length c'] 94)).alloc (.cells #[.string ⟨#[]⟩, .int .u32 (r : Int), .int .i64 (r : Int)] 104)).alloc (.cells #[.string ⟨#[]⟩, .int .u32 (r : Int), .int .i64 (r : Int)] 106)) ⟨w.heap.size, r, none⟩ (ifc 102 (wr.heap.size + 1 + 1))) (.map #[] 0); simp only [World.size_alloc, size_set] at this; exact this)
          (fun _ => rfl) (fun h => absurd h e3.out) (fun b hb => by cases hb) (by obtain ⟨ks, a, b⟩ := hL4.gmap; exact ⟨ks, b, by rw [if_neg e3.out]; exact a.fr hg5 id⟩)
        have hgq := (hgr.step hf4 (fun b hb => by omega)).trans hg5
        have hibq := Fr.heap hg5 (hf4.heap hib (by omega)) id
        have hcbq := Fr.heap hg5 (hf4.heap hcb (by omega)) id
        simp only [ifc, ptr] at hL5 hgq hibq hcbq
        generalize hwq : World.alloc _ _ = wq at hL5 hgq hibq hcbq ⊢
        obtain ⟨ls5, hr1, hr2, hr3⟩ := hL5.row
        have hq1 : wq.cell? ⟨w.heap.size + 1 + 1 + 1 + 1, 0, none⟩ = some (.map (some (w.heap.size + 1 + 1))) := by rw [cell_row hcbq]; rfl
        have hq2 : wq.cell? ⟨w.heap.size, r, none⟩ = some (.iface 102 (.pointer (some ⟨wr.heap.size + 1 + 1, 0, none⟩))) := by rw [cell_row hr1, hr3 r (by omega)]; simp [Gh.enc, hty.1, ifc, ptr]
        have hL6 := hL5.gr ((Gr.refl wq).drew)
        obtain ⟨w7, hput, ho7, hf7, hs7⟩ := (hL6.omap.congr (n' := r + 1) (fun _ _ => rfl) (fun _ _ => rfl) (fun k hk => by simp at hk; omega)).put hL6.keyOk Tryz.underlying78 (k := r) (by omega) (ptr (wr.heap.size + 1 + 1 + 1 + 1))
        have hL7 := hL6.addEntry hf7 (by simpa using ho7)
        simp only [Gh.enc, if_true, ifc, ptr, hty.1] at hput
        go_still_tail 9, (by kernel_rfl)
        change wpList _ _ _ _ _ wq.drew
        go_wp2
        go_roundw
        case rel => exact ⟨r + 1, by omega, by go_num, hgq.drew.step hf7 (fun b hb => by omega), hf7.heap hibq (by omega), hf7.heap hcbq (by omega), _, hL7⟩
        case measure => simp [intOf]; omega
      -- group
      · have hnd : ndOf p r = ⟨1, r, true, own p r + 1, (it p (own p r)).refs⟩ := by
          show Nd.mk _ _ _ _ _ = _
          rw [e1.out, e2.out, if_pos e3.out]
        rw [hnd] at c0 c1 c2 c3 c4 hi
        simp only [Int.natCast_add, Int.natCast_one] at c3
        have hty : tyI p r = 102 ∧ tyE p r = 106 := by simp at h3 h4; simp [tyI, tyE, h3, h4]
        obtain ⟨ls, hl1, hl2, hl3⟩ := hL.row
        obtain ⟨lsr, hlsr⟩ : ∃ u, ls[r]? = some u := ⟨ls[r]'(by omega), Array.getElem?_eq_getElem (by omega)⟩
        have hg3 : Gr wr (((wr.alloc (.cells #[.int .i64 1, .int .u32 (r : Int), .bool true, .int .i64 ((own p r : Int) + 1), .slice A' (it p (own p r)).refs.length c'] 94)).alloc (.cells #[.string ⟨#[]⟩, .int .u32 (r : Int), .int .i64 (r : Int)] 104)).alloc (.cells #[.string ⟨#[]⟩, .int .u32 (r : Int), .int .i64 (r : Int)] 106)) := ((Gr.refl wr).alloc _).alloc _ |>.alloc _
        have hob := heap_alloc_new ((wr.alloc (.cells #[.int .i64 1, .int .u32 (r : Int), .bool true, .int .i64 ((own p r : Int) + 1), .slice A' (it p (own p r)).refs.length c'] 94)).alloc (.cells #[.string ⟨#[]⟩, .int .u32 (r : Int), .int .i64 (r : Int)] 104)) (.cells #[.string ⟨#[]⟩, .int .u32 (r : Int), .int .i64 (r : Int)] 106)
        simp only [World.size_alloc] at hob
        have hsz := hgr.size
        have hLlt := heap_lt hl1
        have hcL3 := hg3.cell ((cell_row hl1 r).trans hlsr)
        have hl13 := Fr.heap hg3 hl1 id
        have hfL3 := frozen_row hl13 r
        have hf4 : Fr (fun b => b = w.heap.size) wr _ := Fr.trans (Fr.mono hg3 (fun _ _ h => h.elim)) (fr_set _ w.heap.size r (ifc 102 (wr.heap.size + 1 + 1)))
        have hL4 := hL.addObj hf4 (b0 := wr.heap.size + 1 + 1) (by omega) (by omega) (Nat.le_refl _)
          (by rw [hty.2]; exact (Below.heap_setCell _ _ _ _ (by simp; omega)).trans hob) (fun ls' h' => by rw [hty.1]; exact heap_setCell_same _ _ _ _ _ _ (Fr.heap hg3 h' id)) hlt (Nat.le_refl _)
        simp only [ifc, ptr] at hL4 hf4
        obtain ⟨gks, hg4, hgks⟩ := hL4.gmap
        have hlook := hg4.look (keyOk_int und3 (p.length + 1)) Tryz.underlying109 zero110 (k := own p r + 1) (by omega)
        simp only [Int.natCast_add, Int.natCast_one, Nat.add_sub_cancel] at hlook
        have hg4r := hgr.step hf4 (fun b hb => by omega)
        have hib4 := hf4.heap hib (by omega)
        have hcb4 := hf4.heap hcb (by omega)
        by_cases hst : start p (own p r) = r
        · rw [if_neg (fun h => by have := ((hgks _).1 h).2.1.2; simp only [Nat.add_sub_cancel] at this; omega)] at hlook
          have hg5 := ((Gr.refl (World.setCell (((wr.alloc (.cells #[.int .i64 1, .int .u32 (r : Int), .bool true, .int .i64 ((own p r : Int) + 1), .slice A' (it p (own p r)).refs.length c'] 94)).alloc (.cells #[.string ⟨#[]⟩, .int .u32 (r : Int), .int .i64 (r : Int)] 104)).alloc (.cells #[.string ⟨#[]⟩, .int .u32 (r : Int), .int .i64 (r : Int)] 106)) ⟨w.heap.size, r, none⟩ (.iface 102 (.pointer (some ⟨wr.heap.size + 1 + 1, 0, none⟩))))).alloc (.map #[] 0)).alloc (.cells #[.slice none 0 0, .bool false, .map (some (wr.heap.size + 1 + 1 + 1))] 115)
          have hd5 := heap_alloc_new ((World.setCell (((wr.alloc (.cells #[.int .i64 1, .int .u32 (r : Int), .bool true, .int .i64 ((own p r : Int) + 1), .slice A' (it p (own p r)).refs.length c'] 94)).alloc (.cells #[.string ⟨#[]⟩, .int .u32 (r : Int), .int .i64 (r : Int)] 104)).alloc (.cells #[.string ⟨#[]⟩, .int .u32 (r : Int), .int .i64 (r : Int)] 106)) ⟨w.heap.size, r, none⟩ (.iface 102 (.pointer (some ⟨wr.heap.size + 1 + 1, 0, none⟩)))).alloc (.map #[] 0)) (.cells #[.slice none 0 0, .bool false, .map (some (wr.heap.size + 1 + 1 + 1))] 115)
          have hm5 := (heap_alloc_old ((World.setCell (((wr.alloc (.cells #[.int .i64 1, .int .u32 (r : Int), .bool true, .int .i64 ((own p r : Int) + 1), .slice A' (it p (own p r)).refs.length c'] 94)).alloc (.cells #[.string ⟨#[]⟩, .int .u32 (r : Int), .int .i64 (r : Int)] 104)).alloc (.cells #[.string ⟨#[]⟩, .int .u32 (r : Int), .int .i64 (r : Int)] 106)) ⟨w.heap.size, r, none⟩ (.iface 102 (.pointer (some ⟨wr.heap.size + 1 + 1, 0, none⟩)))).alloc (.map #[] 0)) (.cells #[.slice none 0 0, .bool false, .map (some (wr.heap.size + 1 + 1 + 1))] 115) (by simp)).trans (heap_alloc_new (World.setCell (((wr.alloc (.cells #[.int .i64 1, .int .u32 (r : Int), .bool true, .int .i64 ((own p r : Int) + 1), .slice A' (it p (own p r)).refs.length c'] 94)).alloc (.cells #[.string ⟨#[]⟩, .int .u32 (r : Int), .int .i64 (r : Int)] 104)).alloc (.cells #[.string ⟨#[]⟩, .int .u32 (r : Int), .int .i64 (r : Int)] 106)) ⟨w.heap.size, r, none⟩ (.iface 102 (.pointer (some ⟨wr.heap.size + 1 + 1, 0, none⟩)))) (.map #[] 0))
          obtain ⟨w6, hput6, hg6, hf6, hs6⟩ := (hg4.fr hg5 id).put (keyOk_int und3 (p.length + 1)) Tryz.underlying109 (k := own p r + 1) (by omega) (ptr (wr.heap.size + 1 + 1 + 1 + 1))
          simp only [Int.natCast_add, Int.natCast_one, ptr] at hput6
          simp only [World.size_alloc, size_set] at hd5 hm5 hs6
          have hgmlt := hg4.lt
          simp only [World.size_alloc, size_set] at hgmlt
          have hd6 := hf6.heap hd5 (by omega)
          have hm6 := hf6.heap hm5 (by omega)
          have zl := cell_row hd6 0
          obtain ⟨v7, w7, Hr7, hown7, hf7a, hf7b, hblk7, -⟩ := app1 (P := Tryz.prog) (t := 99) (ty := 99) elem102 Tryz.underlying99 (B := w.heap.size) (Own.nil w6 _ _ _) (ptr (wr.heap.size + 1 + 1)) rfl (by omega) (by omega) (by omega)
          obtain ⟨A7, c7, rfl⟩ := hown7.val
          simp only [hs6, ptr] at Hr7
          have hd7 := hf7a.heap hd6 (fun h => by cases h)
          have y0 := cell_row hd7 0
          have y1 := cell_row hd7 1
          have y2 := cell_row hd7 2
          have yf := fun i => frozen_row hd7 i
          go_wp2_with (at_builtin; refine wpList_appended rfl _ _ _ _ rfl rfl rfl Hr7 ?_)
          have hd8 := heap_setCell_same _ _ 1 _ _ (.bool true) (heap_setCell_same _ _ 0 _ _ (.slice A7 (0 + 1) c7) hd7)
          have hf8 : Fr (fun b => b = wr.heap.size + 1 + 1 + 1 + 1) w7 _ := Fr.trans (fr_set w7 _ 0 (.slice A7 (0 + 1) c7)) (fr_set _ (wr.heap.size + 1 + 1 + 1 + 1) 1 (.bool true))
          have hown8 := hown7.fr hf8 (fun b hb e => by obtain ⟨cur, hc⟩ := hown7.row hb; exact ne_cells hc hd7 (by decide) e)
          have hm8 := hf8.heap (hf7a.heap hm6 (fun h => by cases h)) (by omega)
          have hg8 := (hg6.fr hf7a (fun h => by cases h)).fr hf8 (by omega)
          have hff : Fr (fun b => b = w.heap.size + 1) (World.setCell (((wr.alloc (.cells #[.int .i64 1, .int .u32 (r : Int), .bool true, .int .i64 ((own p r : Int) + 1), .slice A' (it p (own p r)).refs.length c'] 94)).alloc (.cells #[.string ⟨#[]⟩, .int .u32 (r : Int), .int .i64 (r : Int)] 104)).alloc (.cells #[.string ⟨#[]⟩, .int .u32 (r : Int), .int .i64 (r : Int)] 106)) ⟨w.heap.size, r, none⟩ (.iface 102 (.pointer (some ⟨wr.heap.size + 1 + 1, 0, none⟩)))) _ := ((Fr.mono hg5 (fun _ _ h => h.elim)).trans hf6).step hf7a (fun i _ h => by cases h) |>.step hf8 (fun i hi h => by simp only [World.size_alloc, size_set] at hi; omega)
          have hL5 := hL4.addDecl hk hlt hst (by simp only [World.size_alloc, size_set]; omega) hff (c0 := wr.heap.size + 1 + 1 + 1 + 1) (m0 := wr.heap.size + 1 + 1 + 1) (lh0 := .slice A7 (0 + 1) c7) (by simp only [World.size_alloc, size_set]; omega) (by simp only [World.size_alloc, size_set]; omega)
            (by rw [e2.out]; simpa using hd8) hm8 (fun h => absurd e3.out h) (fun _ => by simpa [ptr] using hown8) (fun b hb => (hblk7 b hb).elim (fun h => by cases h) (fun h => by simp only [World.size_alloc, size_set]; omega))
            ⟨gks, hgks, by rw [if_pos e3.out]; exact hg8⟩
          have hgq := (hg4r.trans hg5).step hf6 (fun b hb => by omega) |>.step hf7a (fun b hb => by cases hb) |>.step hf8 (fun b hb => by omega)
          have hibq := hf8.heap (hf7a.heap (hf6.heap (Fr.heap hg5 hib4 id) (by omega)) (fun h => by cases h)) (by omega)
          have hcbq := hf8.heap (hf7a.heap (hf6.heap (Fr.heap hg5 hcb4 id) (by omega)) (fun h => by cases h)) (by omega)
          generalize hwq : World.setCell (World.setCell w7 _ _) _ _ = wq at hL5 hgq hibq hcbq ⊢
          obtain ⟨ls5, hr1, hr2, hr3⟩ := hL5.row
          have hq1 : wq.cell? ⟨w.heap.size + 1 + 1 + 1 + 1, 0, none⟩ = some (.map (some (w.heap.size + 1 + 1))) := by rw [cell_row hcbq]; rfl
          have hq2 : wq.cell? ⟨w.heap.size, r, none⟩ = some (.iface 102 (.pointer (some ⟨wr.heap.size + 1 + 1, 0, none⟩))) := by rw [cell_row hr1, hr3 r (by omega)]; simp [Gh.enc, hty.1, ifc, ptr]
          have hL6 := hL5.gr ((Gr.refl wq).drew)
          obtain ⟨w7, hput, ho7, hf7, hs7⟩ := (hL6.omap.congr (n' := r + 1) (fun _ _ => rfl) (fun _ _ => rfl) (fun k hk => by simp at hk; omega)).put hL6.keyOk Tryz.underlying78 (k := r) (by omega) (ptr (wr.heap.size + 1 + 1 + 1 + 1))
          have hL7 := hL6.addEntry hf7 (by simpa using ho7)
          simp only [Gh.enc, if_true, ifc, ptr, hty.1] at hput
          go_still_tail 9, (by kernel_rfl)
          change wpList _ _ _ _ _ wq.drew
          go_wp2
          go_roundw
          case rel => exact ⟨r + 1, by omega, by go_num, hgq.drew.step hf7 (fun b hb => by omega), hf7.heap hibq (by omega), hf7.heap hcbq (by omega), _, hL7⟩
          case measure => simp [intOf]; omega
        · have hme : Started p (own p r) r := ⟨hk1, by omega⟩
          rw [if_pos ((hgks _).2 ⟨by omega, by simpa using hme, by simpa using e3.out⟩)] at hlook
          have hlh := hL4.lhs _ hme e3.out
          obtain ⟨A1, c1', hlhv⟩ := hlh.val
          simp only at hlhv
          have hd4 := hL4.dcl _ hme
          simp only [hlhv] at hd4 hlh
          have zl := cell_row hd4 0
          obtain ⟨v7, w7, Hr7, hown7, hf7a, hf7b, hblk7, -⟩ := app1 (P := Tryz.prog) (t := 99) (ty := 99) elem102 Tryz.underlying99 (B := w.heap.size) hlh (ptr (wr.heap.size + 1 + 1)) rfl (by simp only [World.size_alloc, size_set]; omega) (by unfold laidN; omega) (by omega)
          obtain ⟨A7, c7, rfl⟩ := hown7.val
          simp only [World.size_alloc, size_set, ptr] at Hr7 hlook
          have hd7 := hf7a.heap hd4 (fun h => by obtain ⟨cur, hc⟩ := hlh.row h; exact ne_cells hc hd4 (by decide) rfl)
          have y0 := cell_row hd7 0
          have y1 := cell_row hd7 1
          have y2 := cell_row hd7 2
          have yf := fun i => frozen_row hd7 i
          go_wp2_with (at_builtin; refine wpList_appended rfl _ _ _ _ rfl rfl rfl Hr7 ?_)
          have hd8 := heap_setCell_same _ _ 1 _ _ (.bool true) (heap_setCell_same _ _ 0 _ _ (.slice A7 (laidN p (own p r) r + 1) c7) hd7)
          have hf8 : Fr (fun b => b = g.dc (own p r)) w7 _ := Fr.trans (fr_set w7 _ 0 (.slice A7 (laidN p (own p r) r + 1) c7)) (fr_set _ (g.dc (own p r)) 1 (.bool true))
          have hown8 := hown7.fr hf8 (fun b hb e => by obtain ⟨cur, hc⟩ := hown7.row hb; exact ne_cells hc hd7 (by decide) e)
          have hff : Fr (fun b => b = g.dc (own p r) ∨ (g.lh (own p r)).ownBlock = some b) (World.setCell (((wr.alloc (.cells #[.int .i64 1, .int .u32 (r : Int), .bool true, .int .i64 ((own p r : Int) + 1), .slice A' (it p (own p r)).refs.length c'] 94)).alloc (.cells #[.string ⟨#[]⟩, .int .u32 (r : Int), .int .i64 (r : Int)] 104)).alloc (.cells #[.string ⟨#[]⟩, .int .u32 (r : Int), .int .i64 (r : Int)] 106)) ⟨w.heap.size, r, none⟩ (.iface 102 (.pointer (some ⟨wr.heap.size + 1 + 1, 0, none⟩)))) _ := (Fr.mono hf7a (fun b _ h => .inr (by rw [hlhv]; exact h))).trans (Fr.mono hf8 (fun b _ h => .inl h))
          have hln : laidN p (own p r) r = r - start p (own p r) := by unfold laidN; omega
          have hL5 := hL4.addLater hk hlt (by omega) e3.out hff (lh1 := .slice A7 (laidN p (own p r) r + 1) c7) (by rw [e2.out]; simpa using hd8) (by rw [← hln]; simpa [ptr] using hown8)
            (fun b hb => (hblk7 b hb).imp (fun h => by rw [hlhv]; exact h) id)
          have hcge := hL.dclGe _ hme
          have hlge : ∀ b, (Value.slice A1 (laidN p (own p r) r) c1').ownBlock = some b → w.heap.size ≤ b := fun b hb => (hlh.blk b hb).1
          have hdcne : w.heap.size + 1 + 1 + 1 ≠ g.dc (own p r) ∧ w.heap.size + 1 + 1 + 1 + 1 ≠ g.dc (own p r) := ⟨ne_cells hib (hL.dcl _ hme) (by decide), ne_cells hcb (hL.dcl _ hme) (by decide)⟩
          have hne1 : (Value.slice A1 (laidN p (own p r) r) c1').ownBlock ≠ some (w.heap.size + 1 + 1 + 1) := fun h => by obtain ⟨cur, hc⟩ := hlh.row h; exact ne_cells hc hib4 (by decide) rfl
          have hne2 : (Value.slice A1 (laidN p (own p r) r) c1').ownBlock ≠ some (w.heap.size + 1 + 1 + 1 + 1) := fun h => by obtain ⟨cur, hc⟩ := hlh.row h; exact ne_cells hc hcb4 (by decide) rfl
          have hgq := hg4r.step hf7a hlge |>.step hf8 (fun b hb => by rw [hb]; exact hcge)
          have hibq := hf8.heap (hf7a.heap hib4 hne1) hdcne.1
          have hcbq := hf8.heap (hf7a.heap hcb4 hne2) hdcne.2
          generalize hwq : World.setCell (World.setCell w7 _ _) _ _ = wq at hL5 hgq hibq hcbq ⊢
          obtain ⟨ls5, hr1, hr2, hr3⟩ := hL5.row
          have hq1 : wq.cell? ⟨w.heap.size + 1 + 1 + 1 + 1, 0, none⟩ = some (.map (some (w.heap.size + 1 + 1))) := by rw [cell_row hcbq]; rfl
          have hq2 : wq.cell? ⟨w.heap.size, r, none⟩ = some (.iface 102 (.pointer (some ⟨wr.heap.size + 1 + 1, 0, none⟩))) := by rw [cell_row hr1, hr3 r (by omega)]; simp [Gh.enc, hty.1, ifc, ptr]
          have hL6 := hL5.gr ((Gr.refl wq).drew)
          obtain ⟨w7, hput, ho7, hf7, hs7⟩ := (hL6.omap.congr (n' := r + 1) (fun _ _ => rfl) (fun _ _ => rfl) (fun k hk => by simp at hk; omega)).put hL6.keyOk Tryz.underlying78 (k := r) (by omega) (ptr (g.dc (own p r)))
          have hL7 := hL6.addEntry hf7 ho7
          simp only [Gh.enc, if_true, ifc, ptr, hty.1] at hput
          go_still_tail 9, (by kernel_rfl)
          change wpList _ _ _ _ _ wq.drew
          go_wp2
          go_roundw
          case rel => exact ⟨r + 1, by omega, by go_num, hgq.drew.step hf7 (fun b hb => by omega), hf7.heap hibq (by omega), hf7.heap hcbq (by omega), _, hL7⟩
          case measure => simp [intOf]; omega
      -- plain
      · have hnd : ndOf p r = ⟨1, r, false, 0, (it p (own p r)).refs⟩ := by
          show Nd.mk _ _ _ _ _ = _
          rw [e1.out, e2.out, if_neg e3.out]
        rw [hnd] at c0 c1 c2 c3 c4 hi
        have hty : tyI p r = 102 ∧ tyE p r = 106 := by simp at h3 h4; simp [tyI, tyE, h3, h4]
        have hst : start p (own p r) = r := by omega
        obtain ⟨ls, hl1, hl2, hl3⟩ := hL.row
        obtain ⟨lsr, hlsr⟩ : ∃ u, ls[r]? = some u := ⟨ls[r]'(by omega), Array.getElem?_eq_getElem (by omega)⟩
        have hg3 : Gr wr (((wr.alloc (.cells #[.int .i64 1, .int .u32 (r : Int), .bool false, .int .i64 0, .slice A' (it p (own p r)).refs.length c'] 94)).alloc (.cells #[.string ⟨#[]⟩, .int .u32 (r : Int), .int .i64 (r : Int)] 104)).alloc (.cells #[.string ⟨#[]⟩, .int .u32 (r : Int), .int .i64 (r : Int)] 106)) := ((Gr.refl wr).alloc _).alloc _ |>.alloc _
        have hob := heap_alloc_new ((wr.alloc (.cells #[.int .i64 1, .int .u32 (r : Int), .bool false, .int .i64 0, .slice A' (it p (own p r)).refs.length c'] 94)).alloc (.cells #[.string ⟨#[]⟩, .int .u32 (r : Int), .int .i64 (r : Int)] 104)) (.cells #[.string ⟨#[]⟩, .int .u32 (r : Int), .int .i64 (r : Int)] 106)
        simp only [World.size_alloc] at hob
        have hsz := hgr.size
        have hLlt := heap_lt hl1
        have hcL3 := hg3.cell ((cell_row hl1 r).trans hlsr)
        have hl13 := Fr.heap hg3 hl1 id
        have hfL3 := frozen_row hl13 r
        go_wp2
        have hf4 : Fr (fun b => b = w.heap.size) wr _ := Fr.trans (Fr.mono hg3 (fun _ _ h => h.elim)) (fr_set _ w.heap.size r (ifc 102 (wr.heap.size + 1 + 1)))
        have hL4 := hL.addObj hf4 (b0 := wr.heap.size + 1 + 1) (by omega) (by omega) (Nat.le_refl _)
          (by rw [hty.2]; exact (Below.heap_setCell _ _ _ _ (by simp; omega)).trans hob) (fun ls' h' => by rw [hty.1]; exact heap_setCell_same _ _ _ _ _ _ (Fr.heap hg3 h' id)) hlt (Nat.le_refl _)
        have hg5 := ((Gr.refl (World.setCell (((wr.alloc (.cells #[.int .i64 1, .int .u32 (r : Int), .bool false, .int .i64 0, .slice A' (it p (own p r)).refs.length c'] 94)).alloc (.cells #[.string ⟨#[]⟩, .int .u32 (r : Int), .int .i64 (r : Int)] 104)).alloc (.cells #[.string ⟨#[]⟩, .int .u32 (r : Int), .int .i64 (r : Int)] 106)) ⟨w.heap.size, r, none⟩ (ifc 102 (wr.heap.size + 1 + 1)))).alloc (.map #[] 0)).alloc (.cells #[.slice none 0 0, .bool false, .map (some (wr.heap.size + 1 + 1 + 1))] 115)
        have hL5 := hL4.addDecl hk hlt hst (by simp; omega) (Fr.mono hg5 (fun _ _ h => h.elim)) (c0 := wr.heap.size + 1 + 1 + 1 + 1) (m0 := wr.heap.size + 1 + 1 + 1) (lh0 := .slice none 0 0) (by simp) (by simp)
          (by rw [e2.out]; have := heap_alloc_new ((World.setCell (((wr.alloc (.cells #[.int .i64 1, .int .u32 (r : Int), .bool false, .int .i64 0, .slice A' (it p (own p r)).refs.length c'] 94)).alloc (.cells #[.string ⟨#[]⟩, .int .u32 (r : Int), .int .i64 (r : Int)] 104)).alloc (.cells #[.string ⟨#[]⟩, .int .u32 (r : Int), .int .i64 (r : Int)] 106)) ⟨w.heap.size, r, none⟩ (ifc 102 (wr.heap.size + 1 + 1))).alloc (.map #[] 0)) (.cells #[.slice none 0 0, .bool false, .map (some (wr.heap.size + 1 + 1 + 1))] 115); simp only [World.size_alloc, size_set] at this; exact this)
          (by rw [heap_alloc_old _ _ (by simp)]; have := heap_alloc_new (World.setCell (((wr.alloc (.cells #[.int .i64 1, .int .u32 (r : Int), .bool false, .int .i64 0, .slice A' (it p (own p r)).refs.length c'] 94)).alloc (.cells #[.string ⟨#[]⟩, .int .u32 (r : Int), .int .i64 (r : Int)] 104)).alloc (.cells #[.string ⟨#[]⟩, .int .u32 (r : Int), .int .i64 (r : Int)] 106)) ⟨w.heap.size, r, none⟩ (ifc 102 (wr.heap.size + 1 + 1))) (.map #[] 0); simp only [World.size_alloc, size_set] at this; exact this)
          (fun _ => rfl) (fun h => absurd h e3.out) (fun b hb => by cases hb) (by obtain ⟨ks, a, b⟩ := hL4.gmap; exact ⟨ks, b, by rw [if_neg e3.out]; exact a.fr hg5 id⟩)
        have hgq := (hgr.step hf4 (fun b hb => by omega)).trans hg5
        have hibq := Fr.heap hg5 (hf4.heap hib (by omega)) id
        have hcbq := Fr.heap hg5 (hf4.heap hcb (by omega)) id
        simp only [ifc, ptr] at hL5 hgq hibq hcbq
        generalize hwq : World.alloc _ _ = wq at hL5 hgq hibq hcbq ⊢
        obtain ⟨ls5, hr1, hr2, hr3⟩ := hL5.row
        have hq1 : wq.cell? ⟨w.heap.size + 1 + 1 + 1 + 1, 0, none⟩ = some (.map (some (w.heap.size + 1 + 1))) := by rw [cell_row hcbq]; rfl
        have hq2 : wq.cell? ⟨w.heap.size, r, none⟩ = some (.iface 102 (.pointer (some ⟨wr.heap.size + 1 + 1, 0, none⟩))) := by rw [cell_row hr1, hr3 r (by omega)]; simp [Gh.enc, hty.1, ifc, ptr]
        have hL6 := hL5.gr ((Gr.refl wq).drew)
        obtain ⟨w7, hput, ho7, hf7, hs7⟩ := (hL6.omap.congr (n' := r + 1) (fun _ _ => rfl) (fun _ _ => rfl) (fun k hk => by simp at hk; omega)).put hL6.keyOk Tryz.underlying78 (k := r) (by omega) (ptr (wr.heap.size + 1 + 1 + 1 + 1))
        have hL7 := hL6.addEntry hf7 (by simpa using ho7)
        simp only [Gh.enc, if_true, ifc, ptr, hty.1] at hput
        go_still_tail 9, (by kernel_rfl)
        change wpList _ _ _ _ _ wq.drew
        go_wp2
        go_roundw
        case rel => exact ⟨r + 1, by omega, by go_num, hgq.drew.step hf7 (fun b hb => by omega), hf7.heap hibq (by omega), hf7.heap hcbq (by omega), _, hL7⟩
        case measure => simp [intOf]; omega
      -- func
      · have hnd : ndOf p r = ⟨2, r, false, 0, (it p (own p r)).refs⟩ := by
          show Nd.mk _ _ _ _ _ = _
          rw [e1.out, e2.out, if_neg e3.out]
        rw [hnd] at c0 c1 c2 c3 c4 hi
        have hty : tyI p r = 116 ∧ tyE p r = 117 := by simp at h3 h4; simp [tyI, tyE, h3]
        have hst : start p (own p r) = r := by omega
        obtain ⟨ls, hl1, hl2, hl3⟩ := hL.row
        obtain ⟨lsr, hlsr⟩ : ∃ u, ls[r]? = some u := ⟨ls[r]'(by omega), Array.getElem?_eq_getElem (by omega)⟩
        have hg3 : Gr wr (((wr.alloc (.cells #[.int .i64 2, .int .u32 (r : Int), .bool false, .int .i64 0, .slice A' (it p (own p r)).refs.length c'] 94)).alloc (.cells #[.string ⟨#[]⟩, .int .u32 (r : Int), .int .i64 (r : Int)] 104)).alloc (.cells #[.string ⟨#[]⟩, .int .u32 (r : Int), .int .i64 (r : Int)] 117)) := ((Gr.refl wr).alloc _).alloc _ |>.alloc _
        have hob := heap_alloc_new ((wr.alloc (.cells #[.int .i64 2, .int .u32 (r : Int), .bool false, .int .i64 0, .slice A' (it p (own p r)).refs.length c'] 94)).alloc (.cells #[.string ⟨#[]⟩, .int .u32 (r : Int), .int .i64 (r : Int)] 104)) (.cells #[.string ⟨#[]⟩, .int .u32 (r : Int), .int .i64 (r : Int)] 117)
        simp only [World.size_alloc] at hob
        have hsz := hgr.size
        have hLlt := heap_lt hl1
        have hcL3 := hg3.cell ((cell_row hl1 r).trans hlsr)
        have hl13 := Fr.heap hg3 hl1 id
        have hfL3 := frozen_row hl13 r
        go_wp2
        have hf4 : Fr (fun b => b = w.heap.size) wr _ := Fr.trans (Fr.mono hg3 (fun _ _ h => h.elim)) (fr_set _ w.heap.size r (ifc 116 (wr.heap.size + 1 + 1)))
        have hL4 := hL.addObj hf4 (b0 := wr.heap.size + 1 + 1) (by omega) (by omega) (Nat.le_refl _)
          (by rw [hty.2]; exact (Below.heap_setCell _ _ _ _ (by simp; omega)).trans hob) (fun ls' h' => by rw [hty.1]; exact heap_setCell_same _ _ _ _ _ _ (Fr.heap hg3 h' id)) hlt (Nat.le_refl _)
        have hg5 := ((Gr.refl (World.setCell (((wr.alloc (.cells #[.int .i64 2, .int .u32 (r : Int), .bool false, .int .i64 0, .slice A' (it p (own p r)).refs.length c'] 94)).alloc (.cells #[.string ⟨#[]⟩, .int .u32 (r : Int), .int .i64 (r : Int)] 104)).alloc (.cells #[.string ⟨#[]⟩, .int .u32 (r : Int), .int .i64 (r : Int)] 117)) ⟨w.heap.size, r, none⟩ (ifc 116 (wr.heap.size + 1 + 1)))).alloc (.map #[] 0)).alloc (.cells #[.slice none 0 0, .bool false, .map (some (wr.heap.size + 1 + 1 + 1))] 115)
        have hL5 := hL4.addDecl hk hlt hst (by simp; omega) (Fr.mono hg5 (fun _ _ h => h.elim)) (c0 := wr.heap.size + 1 + 1 + 1 + 1) (m0 := wr.heap.size + 1 + 1 + 1) (lh0 := .slice none 0 0) (by simp) (by simp)
          (by rw [e2.out]; have := heap_alloc_new ((World.setCell (((wr.alloc (.cells #[.int .i64 2, .int .u32 (r : Int), .bool false, .int .i64 0, .slice A' (it p (own p r)).refs.length c'] 94)).alloc (.cells #[.string ⟨#[]⟩, .int .u32 (r : Int), .int .i64 (r : Int)] 104)).alloc (.cells #[.string ⟨#[]⟩, .int .u32 (r : Int), .int .i64 (r : Int)] 117)) ⟨w.heap.size, r, none⟩ (ifc 116 (wr.heap.size + 1 + 1))).alloc (.map #[] 0)) (.cells #[.slice none 0 0, .bool false, .map (some (wr.heap.size + 1 + 1 + 1))] 115); simp only [World.size_alloc, size_set] at this; exact this)
          (by rw [heap_alloc_old _ _ (by simp)]; have := heap_alloc_new (World.setCell (((wr.alloc (.cells #[.int .i64 2, .int .u32 (r : Int), .bool false, .int .i64 0, .slice A' (it p (own p r)).refs.length c'] 94)).alloc (.cells #[.string ⟨#[]⟩, .int .u32 (r : Int), .int .i64 (r : Int)] 104)).alloc (.cells #[.string ⟨#[]⟩, .int .u32 (r : Int), .int .i64 (r : Int)] 117)) ⟨w.heap.size, r, none⟩ (ifc 116 (wr.heap.size + 1 + 1))) (.map #[] 0); simp only [World.size_alloc, size_set] at this; exact this)
          (fun _ => rfl) (fun h => absurd h e3.out) (fun b hb => by cases hb) (by obtain ⟨ks, a, b⟩ := hL4.gmap; exact ⟨ks, b, by rw [if_neg e3.out]; exact a.fr hg5 id⟩)
        have hgq := (hgr.step hf4 (fun b hb => by omega)).trans hg5
        have hibq := Fr.heap hg5 (hf4.heap hib (by omega)) id
        have hcbq := Fr.heap hg5 (hf4.heap hcb (by omega)) id
        simp only [ifc, ptr] at hL5 hgq hibq hcbq
        generalize hwq : World.alloc _ _ = wq at hL5 hgq hibq hcbq ⊢
        obtain ⟨ls5, hr1, hr2, hr3⟩ := hL5.row
        have hq1 : wq.cell? ⟨w.heap.size + 1 + 1 + 1 + 1, 0, none⟩ = some (.map (some (w.heap.size + 1 + 1))) := by rw [cell_row hcbq]; rfl
        have hq2 : wq.cell? ⟨w.heap.size, r, none⟩ = some (.iface 116 (.pointer (some ⟨wr.heap.size + 1 + 1, 0, none⟩))) := by rw [cell_row hr1, hr3 r (by omega)]; simp [Gh.enc, hty.1, ifc, ptr]
        have hL6 := hL5.gr ((Gr.refl wq).drew)
        obtain ⟨w7, hput, ho7, hf7, hs7⟩ := (hL6.omap.congr (n' := r + 1) (fun _ _ => rfl) (fun _ _ => rfl) (fun k hk => by simp at hk; omega)).put hL6.keyOk Tryz.underlying78 (k := r) (by omega) (ptr (wr.heap.size + 1 + 1 + 1 + 1))
        have hL7 := hL6.addEntry hf7 (by simpa using ho7)
        simp only [Gh.enc, if_true, ifc, ptr, hty.1] at hput
        go_still_tail 9, (by kernel_rfl)
        change wpList _ _ _ _ _ wq.drew
        go_wp2
        go_roundw
        case rel => exact ⟨r + 1, by omega, by go_num, hgq.drew.step hf7 (fun b hb => by omega), hf7.heap hibq (by omega), hf7.heap hcbq (by omega), _, hL7⟩
        case measure => simp [intOf]; omega
      -- const
      · have hnd : ndOf p r = ⟨0, r, false, 0, (it p (own p r)).refs⟩ := by
          show Nd.mk _ _ _ _ _ = _
          rw [e1.out, e2.out, if_neg e3.out]
        rw [hnd] at c0 c1 c2 c3 c4 hi
        have hty : tyI p r = 111 ∧ tyE p r = 112 := by simp at h3 h4; simp [tyI, tyE, h4]
        have hst : start p (own p r) = r := by omega
        obtain ⟨ls, hl1, hl2, hl3⟩ := hL.row
        obtain ⟨lsr, hlsr⟩ : ∃ u, ls[r]? = some u := ⟨ls[r]'(by omega), Array.getElem?_eq_getElem (by omega)⟩
        have hg3 : Gr wr (((wr.alloc (.cells #[.int .i64 0, .int .u32 (r : Int), .bool false, .int .i64 0, .slice A' (it p (own p r)).refs.length c'] 94)).alloc (.cells #[.string ⟨#[]⟩, .int .u32 (r : Int), .int .i64 (r : Int)] 104)).alloc (.cells #[.string ⟨#[]⟩, .int .u32 (r : Int), .int .i64 (r : Int)] 112)) := ((Gr.refl wr).alloc _).alloc _ |>.alloc _
        have hob := heap_alloc_new ((wr.alloc (.cells #[.int .i64 0, .int .u32 (r : Int), .bool false, .int .i64 0, .slice A' (it p (own p r)).refs.length c'] 94)).alloc (.cells #[.string ⟨#[]⟩, .int .u32 (r : Int), .int .i64 (r : Int)] 104)) (.cells #[.string ⟨#[]⟩, .int .u32 (r : Int), .int .i64 (r : Int)] 112)
        simp only [World.size_alloc] at hob
        have hsz := hgr.size
        have hLlt := heap_lt hl1
        have hcL3 := hg3.cell ((cell_row hl1 r).trans hlsr)
        have hl13 := Fr.heap hg3 hl1 id
        have hfL3 := frozen_row hl13 r
        go_wp2
        have hf4 : Fr (fun b => b = w.heap.size) wr _ := Fr.trans (Fr.mono hg3 (fun _ _ h => h.elim)) (fr_set _ w.heap.size r (ifc 111 (wr.heap.size + 1 + 1)))
        have hL4 := hL.addObj hf4 (b0 := wr.heap.size + 1 + 1) (by omega) (by omega) (Nat.le_refl _)
          (by rw [hty.2]; exact (Below.heap_setCell _ _ _ _ (by simp; omega)).trans hob) (fun ls' h' => by rw [hty.1]; exact heap_setCell_same _ _ _ _ _ _ (Fr.heap hg3 h' id)) hlt (Nat.le_refl _)
        have hg5 := ((Gr.refl (World.setCell (((wr.alloc (.cells #[.int .i64 0, .int .u32 (r : Int), .bool false, .int .i64 0, .slice A' (it p (own p r)).refs.length c'] 94)).alloc (.cells #[.string ⟨#[]⟩, .int .u32 (r : Int), .int .i64 (r : Int)] 104)).alloc (.cells #[.string ⟨#[]⟩, .int .u32 (r : Int), .int .i64 (r : Int)] 112)) ⟨w.heap.size, r, none⟩ (ifc 111 (wr.heap.size + 1 + 1)))).alloc (.map #[] 0)).alloc (.cells #[.slice none 0 0, .bool false, .map (some (wr.heap.size + 1 + 1 + 1))] 115)
        have hL5 := hL4.addDecl hk hlt hst (by simp; omega) (Fr.mono hg5 (fun _ _ h => h.elim)) (c0 := wr.heap.size + 1 + 1 + 1 + 1) (m0 := wr.heap.size + 1 + 1 + 1) (lh0 := .slice none 0 0) (by simp) (by simp)
          (by rw [e2.out]; have := heap_alloc_new ((World.setCell (((wr.alloc (.cells #[.int .i64 0, .int .u32 (r : Int), .bool false, .int .i64 0, .slice A' (it p (own p r)).refs.length c'] 94)).alloc (.cells #[.string ⟨#[]⟩, .int .u32 (r : Int), .int .i64 (r : Int)] 104)).alloc (.cells #[.string ⟨#[]⟩, .int .u32 (r : Int), .int .i64 (r : Int)] 112)) ⟨w.heap.size, r, none⟩ (ifc 111 (wr.heap.size + 1 + 1))).alloc (.map #[] 0)) (.cells #[.slice none 0 0, .bool false, .map (some (wr.heap.size + 1 + 1 + 1))] 115); simp only [World.size_alloc, size_set] at this; exact this)
          (by rw [heap_alloc_old _ _ (by simp)]; have := heap_alloc_new (World.setCell (((wr.alloc (.cells #[.int .i64 0, .int .u32 (r : Int), .bool false, .int .i64 0, .slice A' (it p (own p r)).refs.length c'] 94)).alloc (.cells #[.string ⟨#[]⟩, .int .u32 (r : Int), .int .i64 (r : Int)] 104)).alloc (.cells #[.string ⟨#[]⟩, .int .u32 (r : Int), .int .i64 (r : Int)] 112)) ⟨w.heap.size, r, none⟩ (ifc 111 (wr.heap.size + 1 + 1))) (.map #[] 0); simp only [World.size_alloc, size_set] at this; exact this)
          (fun _ => rfl) (fun h => absurd h e3.out) (fun b hb => by cases hb) (by obtain ⟨ks, a, b⟩ := hL4.gmap; exact ⟨ks, b, by rw [if_neg e3.out]; exact a.fr hg5 id⟩)
        have hgq := (hgr.step hf4 (fun b hb => by omega)).trans hg5
        have hibq := Fr.heap hg5 (hf4.heap hib (by omega)) id
        have hcbq := Fr.heap hg5 (hf4.heap hcb (by omega)) id
        simp only [ifc, ptr] at hL5 hgq hibq hcbq
        generalize hwq : World.alloc _ _ = wq at hL5 hgq hibq hcbq ⊢
        obtain ⟨ls5, hr1, hr2, hr3⟩ := hL5.row
        have hq1 : wq.cell? ⟨w.heap.size + 1 + 1 + 1 + 1, 0, none⟩ = some (.map (some (w.heap.size + 1 + 1))) := by rw [cell_row hcbq]; rfl
        have hq2 : wq.cell? ⟨w.heap.size, r, none⟩ = some (.iface 111 (.pointer (some ⟨wr.heap.size + 1 + 1, 0, none⟩))) := by rw [cell_row hr1, hr3 r (by omega)]; simp [Gh.enc, hty.1, ifc, ptr]
        have hL6 := hL5.gr ((Gr.refl wq).drew)
        obtain ⟨w7, hput, ho7, hf7, hs7⟩ := (hL6.omap.congr (n' := r + 1) (fun _ _ => rfl) (fun _ _ => rfl) (fun k hk => by simp at hk; omega)).put hL6.keyOk Tryz.underlying78 (k := r) (by omega) (ptr (wr.heap.size + 1 + 1 + 1 + 1))
        have hL7 := hL6.addEntry hf7 (by simpa using ho7)
        simp only [Gh.enc, if_true, ifc, ptr, hty.1] at hput
        go_still_tail 9, (by kernel_rfl)
        change wpList _ _ _ _ _ wq.drew
        go_wp2
        go_roundw
        case rel => exact ⟨r + 1, by omega, by go_num, hgq.drew.step hf7 (fun b hb => by omega), hf7.heap hibq (by omega), hf7.heap hcbq (by omega), _, hL7⟩
        case measure => simp [intOf]; omega
    · have hr0 : r = cnt p := by omega
      subst hr0
      have hB := hL.built hk
      clear hL
      obtain ⟨ks0, hB, hks0⟩ := hB
      go_wp2
      go_loopw [111] (BuildRel2 w p w.heap.size (w.heap.size + 1 + 1) (w.heap.size + 1 + 1 + 1) (w.heap.size + 1 + 1 + 1 + 1) g) (fun i _ => cnt p - (intOf i).toNat)
      case atStart => exact ⟨0, by omega, rfl, ks0, hgr, hib, hcb, hB, fun k r h => by rw [hks0] at h; simp at h, fun i h => by omega⟩
      case round =>
        rename World => w2
        obtain ⟨i, hic, rfl, ks2, hgr2, hib2, hcb2, hB2, hs1, hs2⟩ := hrel
        by_cases hlt2 : i < cnt p
        · obtain ⟨b, o, A', c', rfl, -, -, c0, c1, c2, c3, c4, hi⟩ := hp.at_ (nodesOf_get hlt2)
          obtain ⟨hk1, hk2, hk3⟩ := own_spec hlt2
          replace c0 := hgr2.cell c0
          replace c1 := hgr2.cell c1
          replace c2 := hgr2.cell c2
          replace c3 := hgr2.cell c3
          replace c4 := hgr2.cell c4
          have hrl : (it p (own p i)).refs.length ≤ 1099511627776 := hw _ hk1
          have hrefs : (ndOf p i).refs = (it p (own p i)).refs := rfl
          rw [hrefs] at c4 hi
          go_wp2
          go_loopw [119] (BuildRel3 w p w.heap.size (w.heap.size + 1 + 1) (w.heap.size + 1 + 1 + 1) (w.heap.size + 1 + 1 + 1 + 1) g i) (fun j _ => (it p (own p i)).refs.length - (intOf j).toNat)
          case atStart => exact ⟨0, by omega, rfl, ks2, hgr2.alloc _, Fr.heap ((Gr.refl w2).alloc _) hib2 id, Fr.heap ((Gr.refl w2).alloc _) hcb2 id, hB2.gr ((Gr.refl w2).alloc _), hs1, hs2, fun d h => by simp at h⟩
          case round =>
            rename World => w3
            obtain ⟨j, hjc, rfl, ks3, hgr3, hib3, hcb3, hB3, hs3, hs4, hs5⟩ := hrel
            by_cases hlt3 : j < (it p (own p i)).refs.length
            · obtain ⟨x, hx⟩ := get_lt hlt3
              obtain ⟨hx0, hx1⟩ := hr _ (it_mem hk1) x (List.mem_of_getElem? hx)
              obtain ⟨d, rfl⟩ : ∃ d : Nat, x = (d : Int) := ⟨x.toNat, by omega⟩
              have hd : d < cnt p := by omega
              obtain ⟨b5, o5, rfl, -, -, c5⟩ := (hi.gr hgr3).at_ hlt3
              replace c5 := c5 _ hx
              obtain ⟨ls, hr1, hr2, hr3⟩ := hB3.row
              have z1 : w3.cell? ⟨w.heap.size + 1 + 1 + 1 + 1, 0, none⟩ = some (.map (some (w.heap.size + 1 + 1))) := by rw [cell_row hcb3]; rfl
              have z2 : w3.cell? ⟨w.heap.size, i, none⟩ = some (.iface (tyI p i) (.pointer (some ⟨g.ob i, 0, none⟩))) := by rw [cell_row hr1, hr3 i hlt2]; rfl
              have z3 : w3.cell? ⟨w.heap.size, d, none⟩ = some (.iface (tyI p d) (.pointer (some ⟨g.ob d, 0, none⟩))) := by rw [cell_row hr1, hr3 d hd]; rfl
              have z4 : w3.cell? ⟨g.dc (own p i), 2, none⟩ = some (.map (some (g.dm (own p i)))) := by rw [cell_row (hB3.dcl _ hk1)]; rfl
              have hB6 := hB3.gr ((Gr.refl w3).drew)
              have hlook := hB6.omap.look hB6.keyOk Tryz.underlying78 zero110 hlt2
              rw [if_pos (by simpa using hlt2)] at hlook
              simp only [Gh.enc, ifc, ptr] at hlook
              obtain ⟨w7, hput, ho7, hf7, hs7⟩ := (hB6.dep _ hk1).put hB6.keyOk Tryz.underlying113 hd (.bool true)
              have hB7 := hB6.put hk1 hf7 ho7
              simp only [Gh.enc, ifc, ptr] at hput
              go_wp2
              go_still_tail 16, (by kernel_rfl)
              change wpList _ _ _ _ _ w3.drew
              go_wp2
              go_roundw
              case rel =>
                have hge := hB3.depGe _ hk1
                refine ⟨j + 1, by omega, by go_num, _, hgr3.drew.step hf7 (fun b hb => by rw [hb]; exact hge), hf7.heap hib3 (fun e => (hB6.dep _ hk1).ne (w := w3.drew) hib3 e.symm), hf7.heap hcb3 (fun e => (hB6.dep _ hk1).ne (w := w3.drew) hcb3 e.symm), hB7, ?_, ?_, ?_⟩
                · intro k d' hd'
                  by_cases e : k = own p i
                  · simp only [e, if_true, putKs] at hd' ⊢
                    split at hd'
                    · exact hs3 _ _ hd'
                    · rcases List.mem_append.1 hd' with h | h
                      · exact hs3 _ _ h
                      · simp at h; rw [h]; exact List.mem_of_getElem? hx
                  · simp only [if_neg e] at hd'
                    exact hs3 _ _ hd'
                · intro i' hi' d' hd'
                  have := hs4 i' hi' d' hd'
                  by_cases e : own p i' = own p i
                  · simp only [e, if_true, putKs]
                    rw [e] at this
                    split
                    · exact this
                    · exact List.mem_append_left _ this
                  · simp only [if_neg e]; exact this
                · intro d' hd'
                  simp only [if_true, putKs]
                  rw [take_snoc hx, List.mem_append] at hd'
                  split
                  · rename_i hin
                    rcases hd' with h | h
                    · exact hs5 _ h
                    · simp at h; rw [show d' = d by omega]; exact hin
                  · rcases hd' with h | h
                    · exact List.mem_append_left _ (hs5 _ h)
                    · simp at h; rw [show d' = d by omega]; simp
              case measure => simp [intOf]; omega
            · have hj0 : j = (it p (own p i)).refs.length := by omega
              subst hj0
              go_wp2
              go_roundw
              case rel => 
                refine ⟨i + 1, by omega, by go_num, ks3, hgr3, hib3, hcb3, hB3, hs3, fun i' hi' d hd => ?_⟩
                by_cases e : i' = i
                · subst e; rw [List.take_length] at hs5; exact hs5 d hd
                · exact hs4 i' (by omega) d hd
              case measure => simp [intOf]; omega
        · have hi0 : i = cnt p := by omega
          subst hi0
          go_wp2
          go_ret2
          refine ⟨_, _, _, _, g, ks2, rfl, by omega, by omega, by omega, by omega, hcb2, hib2, hB2, fun k d hk' => ⟨hs1 k d, fun hd => ?_⟩, hgr2⟩
          have hn := n_pos hk (it_mem hk')
          have := hs2 (start p k + 0) (start_lt hk' (by omega)) d (by rw [own_start hk' (by omega)]; exact hd)
          rwa [own_start hk' (by omega)] at this
end Go.Proofs.YtelfaljidgfphaaGreat
