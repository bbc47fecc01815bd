/-
  The walk of 'dependencyGraph'.
-/
import Derived.Test.YtelfaljidgfphaaGreatJ21
import Derived.Test.YtelfaljidgfphaaGreatQ1
namespace Go.Proofs.YtelfaljidgfphaaGreat
open Go.RowKit

/-- The nodes of the objects in kv have been laid. -/
def GRel1 (B n om mM it : Nat) (ec val : Nat → Value) (w : World) (k : Nat) (wr : World) : Prop :=
  ∃ (rem kv : List Nat) (nd : Nat → Nat), rem.length = k ∧ NIter wr it om ec n (List.range n) val rem ∧ Gr w wr ∧ NMap wr mM ec n kv (fun r => ptr (nd r)) ∧ (∀ r, r ∈ kv ↔ r < n ∧ r ∉ rem) ∧
    (∀ r, r ∈ kv → wr.heap[nd r]? = some (.cells #[ec r, .map none, .map none, .int .i64 0, .int .i64 0] 89 (0, 0)) ∧ B ≤ nd r) ∧ (∀ r s, r ∈ kv → s ∈ kv → nd r = nd s → r = s)

theorem holds_85 {t : Nat} {ms : Array (String × TypeId)} (hu : Tryz.prog.underlying 85 = some (.interface ms)) (h : (Tryz.prog.info? t).map (fun i => Instr.missingMethod ms i.methods) = some none) (v : Value) (u : World) :
    (Instr.typeAssert (.iface t v) 108 85 true).run Tryz.prog u = .ok (.tuple #[.iface t v, .bool true]) u := by
  cases hi : Tryz.prog.info? t with
  | none => rw [hi] at h; cases h
  | some i =>
    rw [hi] at h
    simp only [Option.map_some, Option.some.injEq] at h
    simp [Instr.typeAssert, run_underlying hu, typeInfo, hi, h]

theorem assert_dep (p : List It) (g : Gh) (r : Nat) (u : World) : (Instr.typeAssert (g.enc p r) 108 85 true).run Tryz.prog u = .ok (.tuple #[g.enc p r, .bool true]) u := by
  unfold Gh.enc ifc tyI
  split
  · exact holds_85 Tryz.underlying85 (by kernel_rfl) _ u
  · split
    · exact holds_85 Tryz.underlying85 (by kernel_rfl) _ u
    · exact holds_85 Tryz.underlying85 (by kernel_rfl) _ u

theorem assert_func (p : List It) (g : Gh) (r : Nat) (u : World) : (Instr.typeAssert (g.enc p r) 85 116 true).run Tryz.prog u = .ok (.tuple (if (it p (own p r)).kind = 3 then #[ptr (g.ob r), .bool true] else #[.pointer none, .bool false])) u := by
  by_cases h3 : (it p (own p r)).kind = 3
  · have : tyI p r = 116 := by simp [tyI, h3]
    simp [Gh.enc, ifc, this, Instr.typeAssert, run_underlying Tryz.underlying116, h3]
  · have : tyI p r ≠ 116 := by unfold tyI; rw [if_neg h3]; split <;> simp
    simp [Gh.enc, ifc, this, Instr.typeAssert, run_underlying Tryz.underlying116, h3]

theorem gs_start {B n : Nat} {ec : Nat → Value} {nd : Nat → Nat} {w : World} (h1 : ∀ r, r < n → w.heap[nd r]? = some (.cells #[ec r, .map none, .map none, .int .i64 0, .int .i64 0] 89 (0, 0))) (h2 : ∀ r, r < n → B ≤ nd r) (h3 : ∀ r s, r < n → s < n → nd r = nd s → r = s) :
    Gs B n ec nd (fun _ _ => none) (fun _ _ => []) (fun _ => 0) (fun _ => 0) w where
  node := h1
  ge := h2
  inj := h3
  nil _ _ _ _ := rfl
  set _ _ _ _ h := by cases h
  sep _ _ _ _ _ _ _ h := by cases h

/-- The edges of the objects that are not in rem have been laid. -/
def GRel2 (p : List It) (B mM it : Nat) (ec : Nat → Value) (kv : List Nat) (nd : Nat → Nat) (w : World) (k : Nat) (wr : World) : Prop :=
  ∃ rem mb ks, rem.length = k ∧ NIter wr it mM ec (cnt p) kv (fun r => ptr (nd r)) rem ∧ Gr w wr ∧ Gs B (cnt p) ec nd mb ks (fun _ => 0) (fun _ => 0) wr ∧
    (∀ x y, x < cnt p → (y ∈ ks true x ↔ x ∉ rem ∧ E0 p x y)) ∧ (∀ x y, y < cnt p → (x ∈ ks false y ↔ x < cnt p ∧ x ∉ rem ∧ E0 p x y))
/-- Of those of r those that lead to objects outside rem3. -/
def GRel3 (p : List It) (B mM it : Nat) (ec : Nat → Value) (kv : List Nat) (nd : Nat → Nat) (w : World) (r it3 dm : Nat) (dks rem : List Nat) (k : Nat) (wr : World) : Prop :=
  ∃ rem3 mb ks, rem3.length = k ∧ NIter wr it3 dm ec (cnt p) dks (fun _ => .bool true) rem3 ∧ NIter wr it mM ec (cnt p) kv (fun r => ptr (nd r)) (rem.erase r) ∧ Gr w wr ∧ Gs B (cnt p) ec nd mb ks (fun _ => 0) (fun _ => 0) wr ∧
    (∀ x y, x < cnt p → (y ∈ ks true x ↔ (x ∉ rem ∧ E0 p x y) ∨ (x = r ∧ E0 p r y ∧ y ∉ rem3))) ∧ (∀ x y, y < cnt p → (x ∈ ks false y ↔ (x < cnt p ∧ x ∉ rem ∧ E0 p x y) ∨ (x = r ∧ E0 p r y ∧ y ∉ rem3)))

theorem info83 : (Tryz.prog.info? 83).map (fun i => (i.zero, i.size, i.bytes)) = some (some (.pointer none), 1, 8) := by kernel_rfl
theorem elem83 : ElemOk Tryz.prog 83 (.pointer none) 1 8 := ElemOk.mk' info83 rfl (by decide)

/-- The objects that are not in rem have been parted: no functions in lg, functions in lf. -/
def GRel4 (p : List It) (B mM it : Nat) (ec : Nat → Value) (kv : List Nat) (nd : Nat → Nat) (mb : Bool → Nat → Option Nat) (ks : Bool → Nat → List Nat) (w : World) (k : Nat) (v1 v2 : Value) (wr : World) : Prop :=
  ∃ (rem lg lf : List Nat) (A1 A2 : Option Addr) (c1 c2 : Nat), rem.length = k ∧ v1 = .slice A1 lg.length c1 ∧ v2 = .slice A2 lf.length c2 ∧ NIter wr it mM ec (cnt p) kv (fun r => ptr (nd r)) rem ∧ Gr w wr ∧ Gs B (cnt p) ec nd mb ks (fun _ => 0) (fun _ => 0) wr ∧
    Own wr (fun b => B ≤ b) 83 1 v1 lg.length (lg.map fun r => ptr (nd r)) ∧ Own wr (fun b => B ≤ b) 83 1 v2 lf.length (lf.map fun r => ptr (nd r)) ∧ (∀ b, v1.ownBlock = some b → v2.ownBlock ≠ some b) ∧
    lg.Nodup ∧ lf.Nodup ∧ (∀ r, r ∈ lg ↔ r < cnt p ∧ r ∉ rem ∧ (kindAt p r ≠ 3)) ∧ (∀ r, r ∈ lf ↔ r < cnt p ∧ r ∉ rem ∧ kindAt p r = 3)

/-- What stands while functions are removed. -/
structure Cm (n B : Nat) (ec : Nat → Value) (nd : Nat → Nat) (lg : List Nat) (v1 : Value) (fs : List Nat) (v2 : Value) (w : World) (mb : Bool → Nat → Option Nat) (ks : Bool → Nat → List Nat) (wr : World) : Prop where
  gr : Gr w wr
  gs : Gs B n ec nd mb ks (fun _ => 0) (fun _ => 0) wr
  o1 : Own wr (fun b => B ≤ b) 83 1 v1 lg.length (lg.map fun r => ptr (nd r))
  o2 : Own wr (fun b => B ≤ b) 83 1 v2 fs.length (fs.map fun r => ptr (nd r))

section
variable {n B : Nat} {ec : Nat → Value} {nd : Nat → Nat} {lg : List Nat} {v1 : Value} {fs : List Nat} {v2 : Value} {w wr w' : World} {mb mb' : Bool → Nat → Option Nat} {ks ks' : Bool → Nat → List Nat}
theorem Cm.step (h : Cm n B ec nd lg v1 fs v2 w mb ks wr) (hB : w.heap.size ≤ B) {c : Bool} {r : Nat} (hr : r < n) (hf : Fr (AtS nd mb c r) wr w') (hg : Gs B n ec nd mb' ks' (fun _ => 0) (fun _ => 0) w') : Cm n B ec nd lg v1 fs v2 w mb' ks' w' :=
  ⟨h.gr.step hf (fun _ hb => Nat.le_trans hB (h.gs.atGe hr hb)), hg, h.o1.fr hf (fun _ hb => h.gs.rowNe (h.o1.row hb) hr), h.o2.fr hf (fun _ hb => h.gs.rowNe (h.o2.row hb) hr)⟩
theorem SIter.at_ {it : Nat} {enc : Nat → Value} {l rem : List Nat} {c0 c : Bool} {f r : Nat} {m : Option Nat} {ix dp : Nat → Int} (hi : SIter w it m enc n l rem) (hg : Gs B n ec nd mb ks ix dp w) (hm : mb c0 f = m) (hf0 : f < n) (hr : r < n) (hne : ¬ (c0 = c ∧ f = r)) (hf : Fr (AtS nd mb c r) w w') : SIter w' it m enc n l rem :=
  hi.fr hf (hg.atNe hi.iter hr) (fun _ hb => hg.setAt hf0 hr (hm.trans hb) hne)
theorem Cm.grow (h : Cm n B ec nd lg v1 fs v2 w mb ks wr) (hg : Gr wr w') : Cm n B ec nd lg v1 fs v2 w mb ks w' := ⟨h.gr.trans hg, h.gs.gr hg, h.o1.gr hg, h.o2.gr hg⟩
theorem Cm.it (h : Cm n B ec nd lg v1 fs v2 w mb ks wr) {i : Nat} (hi : ∃ a b c d, wr.heap[i]? = some (.mapIter a b c d)) (hw : w.heap.size ≤ i) (hf : Fr (fun j => j = i) wr w') : Cm n B ec nd lg v1 fs v2 w mb ks w' := by
  have hrow : ∀ b, (∃ cur, wr.heap[b]? = some (.cells cur 83 (0, 0))) → b ≠ i := fun b ⟨cur, hc⟩ e => by
    obtain ⟨_, _, _, _, hi⟩ := hi
    rw [e, hi] at hc
    cases hc
  exact ⟨h.gr.step hf (fun b hb => by omega), h.gs.fr hf (fun r hr e => h.gs.atNe hi hr (c := true) (.inl e.symm)) (fun c r b hr hb e => h.gs.atNe hi hr (.inr (e ▸ hb))), h.o1.fr hf (fun b hb => hrow b (h.o1.row hb)), h.o2.fr hf (fun b hb => hrow b (h.o2.row hb))⟩
end

def GRel5 (p : List It) (B : Nat) (ec : Nat → Value) (nd : Nat → Nat) (lg : List Nat) (v1 : Value) (fs : List Nat) (v2 : Value) (w : World) (i : Value) (wr : World) : Prop :=
  ∃ (t : Nat) (mb : Bool → Nat → Option Nat) (ks : Bool → Nat → List Nat), t ≤ fs.length ∧ i = .int .i64 (t : Int) ∧ Cm (cnt p) B ec nd lg v1 fs v2 w mb ks wr ∧ Inv (cnt p) (fs.take t) (EL p (fs.take t)) ks
def GRel6 (p : List It) (B : Nat) (ec : Nat → Value) (nd : Nat → Nat) (lg : List Nat) (v1 : Value) (fs : List Nat) (v2 : Value) (w : World) (f it6 : Nat) (mb0 : Bool → Nat → Option Nat) (ks0 : Bool → Nat → List Nat) (k : Nat) (wr : World) : Prop :=
  ∃ (rem : List Nat) (mb : Bool → Nat → Option Nat) (ks : Bool → Nat → List Nat), rem.length = k ∧ SIter wr it6 (mb0 false f) (fun i => ptr (nd i)) (cnt p) (ks0 false f) rem ∧ mb false f = mb0 false f ∧ mb true f = mb0 true f ∧ Cm (cnt p) B ec nd lg v1 fs v2 w mb ks wr ∧
    Kst (cnt p) ks0 f (V6 ks0 f rem) (W6 ks0 f rem) ks
def GRel7 (p : List It) (B : Nat) (ec : Nat → Value) (nd : Nat → Nat) (lg : List Nat) (v1 : Value) (fs : List Nat) (v2 : Value) (w : World) (f it6 : Nat) (mb0 : Bool → Nat → Option Nat) (ks0 : Bool → Nat → List Nat) (q it7 : Nat) (rem : List Nat) (k : Nat) (wr : World) : Prop :=
  ∃ (rem7 : List Nat) (mb : Bool → Nat → Option Nat) (ks : Bool → Nat → List Nat), rem7.length = k ∧ SIter wr it7 (mb0 true f) (fun i => ptr (nd i)) (cnt p) (ks0 true f) rem7 ∧ SIter wr it6 (mb0 false f) (fun i => ptr (nd i)) (cnt p) (ks0 false f) (rem.erase q) ∧ mb false f = mb0 false f ∧ mb true f = mb0 true f ∧
    Cm (cnt p) B ec nd lg v1 fs v2 w mb ks wr ∧ Kst (cnt p) ks0 f (V6 ks0 f rem) (W7 ks0 f rem q rem7) ks
def GRel8 (p : List It) (B : Nat) (ec : Nat → Value) (nd : Nat → Nat) (lg : List Nat) (v1 : Value) (fs : List Nat) (v2 : Value) (w : World) (f it8 : Nat) (m : Option Nat) (mb : Bool → Nat → Option Nat) (ks0 : Bool → Nat → List Nat) (k : Nat) (wr : World) : Prop :=
  ∃ (rem : List Nat) (ks : Bool → Nat → List Nat), rem.length = k ∧ SIter wr it8 m (fun i => ptr (nd i)) (cnt p) (ks0 true f) rem ∧ Cm (cnt p) B ec nd lg v1 fs v2 w mb ks wr ∧ K8 (cnt p) ks0 f rem ks

theorem heap_two {w : World} {b : Nat} {c : Array Value} {t : Nat} (h : w.heap[b]? = some (.cells c t (0, 0))) (i j : Nat) (u v : Value) :
    ((w.setCell ⟨b, i, none⟩ u).setCell ⟨b, j, none⟩ v).heap[b]? = some (.cells ((c.setIfInBounds i u).setIfInBounds j v) t (0, 0)) := heap_setCell_same _ _ _ _ _ _ (heap_setCell_same _ _ _ _ _ _ h)
/-- A node's place and count are laid. -/
theorem Gs.setIx {n B : Nat} {ec : Nat → Value} {nd : Nat → Nat} {mb : Bool → Nat → Option Nat} {ks : Bool → Nat → List Nat} {ix dp : Nat → Int} {w : World} (h : Gs B n ec nd mb ks ix dp w) {r : Nat} (hr : r < n) (a b : Int) :
    Gs B n ec nd mb ks (fun i => if i = r then a else ix i) (fun i => if i = r then b else dp i) ((w.setCell ⟨nd r, 3, none⟩ (.int .i64 a)).setCell ⟨nd r, 4, none⟩ (.int .i64 b)) := by
  have hf : Fr (fun j => j = nd r) w ((w.setCell ⟨nd r, 3, none⟩ (.int .i64 a)).setCell ⟨nd r, 4, none⟩ (.int .i64 b)) := (fr_set w _ _ _).trans (fr_set _ _ _ _)
  exact {
    node := fun s hs => by
      by_cases e : s = r
      · subst e
        rw [heap_two (h.node s hs)]
        simp
      · simp only [if_neg e]
        exact hf.heap (h.node s hs) (fun e' => e (h.inj _ _ hs hr e'))
    ge := h.ge
    inj := h.inj
    nil := h.nil
    set := fun c s b' hs hb => ⟨(h.set c s b' hs hb).1.fr hf (h.setNe hs hr hb), (h.set c s b' hs hb).2⟩
    sep := h.sep }
set_option maxRecDepth 100000 in
theorem Gs.len {n B : Nat} {ec : Nat → Value} {nd : Nat → Nat} {mb : Bool → Nat → Option Nat} {ks : Bool → Nat → List Nat} {ix dp : Nat → Int} {w : World} (h : Gs B n ec nd mb ks ix dp w) (c : Bool) {r : Nat} (hr : r < n) {w' : World} (hf : Fr (fun j => j = nd r) w w') (ty : TypeId) :
    (Builtin.len_ #[87] ty #[.map (mb c r)]).run Tryz.prog w' = .ok (goInt (ks c r).length) w' := by
  cases hm : mb c r with
  | none => rw [h.nil c r hr hm]; rfl
  | some b => exact ((h.set c r b hr hm).1.fr hf (h.setNe hr hr hm)).len Tryz.underlying87 _ _ rfl

def GRel9 (p : List It) (B : Nat) (ec : Nat → Value) (nd : Nat → Nat) (lg : List Nat) (v1 : Value) (mb : Bool → Nat → Option Nat) (ks : Bool → Nat → List Nat) (w : World) (i : Value) (wr : World) : Prop :=
  ∃ (t : Nat) (ix dp : Nat → Int), t ≤ lg.length ∧ i = .int .i64 (t : Int) ∧ Gr w wr ∧ Gs B (cnt p) ec nd mb ks ix dp wr ∧ Own wr (fun b => B ≤ b) 83 1 v1 lg.length (lg.map fun r => ptr (nd r)) ∧
    ∀ (j r : Nat), j < t → lg[j]? = some r → ix r = (j : Int) ∧ dp r = ((ks true r).length : Int)

/-- What 'dependencyGraph' returns. -/
def PGraph (w : World) (p : List It) (g : Gh) (e : Ending) (w' : World) : Prop :=
  ∃ (B : Nat) (lg : List Nat) (A : Option Addr) (c : Nat) (nd : Nat → Nat) (mb : Bool → Nat → Option Nat) (ks : Bool → Nat → List Nat) (ix dp : Nat → Int) (fs : List Nat), e = .returned (.slice A lg.length c) ∧ w.heap.size ≤ B ∧ Gr w w' ∧ Own w' (fun b => B ≤ b) 83 1 (.slice A lg.length c) lg.length (lg.map fun r => ptr (nd r)) ∧ Gs B (cnt p) (g.enc p) nd mb ks ix dp w' ∧
    lg.Nodup ∧ (∀ r, r ∈ lg ↔ r < cnt p ∧ kindAt p r ≠ 3) ∧ fs.Nodup ∧ (∀ r, r ∈ fs ↔ r < cnt p ∧ kindAt p r = 3) ∧ Inv (cnt p) fs (EL p fs) ks ∧ ∀ (j r : Nat), lg[j]? = some r → ix r = (j : Int) ∧ dp r = ((ks true r).length : Int)

theorem not_mem_take {fs : List Nat} {t f : Nat} (hd : fs.Nodup) (h : fs[t]? = some f) : f ∉ fs.take t := by
  intro hm
  obtain ⟨i, hi, he⟩ := List.mem_iff_getElem.1 hm
  simp only [List.length_take, List.getElem_take] at hi he
  obtain ⟨h1, h2⟩ := List.getElem?_eq_some_iff.1 h
  have := (List.getElem_inj hd).1 (he.trans h2.symm)
  omega

theorem Built.keyDep {B : Nat} {p : List It} {L om : Nat} {g : Gh} {ks : Nat → List Nat} {w u : World} (h : Built B p L om g ks w) (hg : Gr w u) : KeyOk Tryz.prog u 85 (g.enc p) (cnt p) :=
  keyOk_ifc Tryz.underlying85 (fun r _ => ptr_tyI p r) (fun r hr => ⟨_, _, Fr.heap hg (h.obj r hr) id⟩) h.objInj

set_option maxHeartbeats 2000000 in
set_option maxRecDepth 100000 in
theorem graph_any (w : World) (B L om : Nat) (p : List It) (g : Gh) (ks : Nat → List Nat) (hb : Built B p L om g ks w) (hks : ∀ k d, k < p.length → (d ∈ ks k ↔ (d : Int) ∈ (it p k).refs)) (hn : cnt p ≤ 209715200) :
    Calls Tryz.prog 59 #[.map (some om)] w (PGraph w p g) := by
  have hmk := fun u => run_makeMap (P := Tryz.prog) 118 u
  have hta := fun r u => assert_dep p g r u
  simp only [Gh.enc, ifc, ptr] at hta
  have homlt := hb.omap.lt
  obtain ⟨o, hrange, hit⟩ := (hb.omap.fr ((Gr.refl w).alloc (.map #[] 0)) id).range Tryz.underlying78
  simp only [World.size_alloc] at hrange hit
  go_enter Tryz.func59, Tryz.ntmps59
  go_wp2
  go_loopg [] (cnt p) (GRel1 (w.heap.size + 1) (cnt p) om w.heap.size (w.heap.size + 1) (g.enc p) (fun i => ptr (g.dc (own p i))) w)
  case atStart =>
    exact ⟨List.range (cnt p), [], fun _ => 0, by simp, hit, ((Gr.refl w).alloc _).alloc _, (NMap.made w _ _ _).fr ((Gr.refl _).alloc _) id, fun r => by simp, fun r h => by simp at h, fun r s h => by simp at h⟩
  case round =>
    obtain ⟨rem, kv, nd, hg, hni, hgr, hM, hkv, hnd, hinj⟩ := hrel
    have hsz := hgr.size
    rcases hni.next (P := Tryz.prog) 0 with ⟨hr0, hnx⟩ | ⟨r, hr, w2, hnx, hent, hni2, hf2, hs2⟩
    · subst hr0
      have hkv' : ∀ r, r ∈ kv ↔ r < cnt p := fun r => by rw [hkv]; simp
      have hgs : Gs (w.heap.size + 1) (cnt p) (g.enc p) nd (fun _ _ => none) (fun _ _ => []) (fun _ => 0) (fun _ => 0) wr := gs_start (fun r hr => (hnd r ((hkv' r).2 hr)).1) (fun r hr => (hnd r ((hkv' r).2 hr)).2) (fun r s hr hs => hinj r s ((hkv' r).2 hr) ((hkv' s).2 hs))
      clear hnd hinj hkv
      have hMlt := hM.lt
      obtain ⟨o2, hrange2, hit2⟩ := hM.range Tryz.underlying118
      clear hM hni hit hrange
      go_wp2
      go_loopg [] (cnt p) (GRel2 p (w.heap.size + 1) w.heap.size wr.heap.size (g.enc p) kv nd w)
      case atStart =>
        have hlen : kv.length = cnt p := by
          have := (List.perm_ext_iff_of_nodup hit2.1 (List.nodup_range (n := cnt p))).2 (fun r => by rw [hkv']; simp)
          simpa using this.length_eq
        exact ⟨kv, _, _, hlen, hit2, hgr.alloc _, hgs.gr ((Gr.refl wr).alloc _), fun x y hx => by simp [(hkv' x).2 hx], fun x y hy => by
          by_cases hx : x < cnt p
          · simp [(hkv' x).2 hx]
          · simp [hx]⟩
      case round =>
        rename World => w5
        clear hgs hit2
        obtain ⟨rem2, mb, ks2, hg2, hni2, hgr5, hgs, hk1, hk2⟩ := hrel
        have hsz5 := hgr5.size
        rcases hni2.next (P := Tryz.prog) 0 with ⟨hr0, hnx2⟩ | ⟨r, hr, w6, hnx2, hent2, hni6, hf6, hs6⟩
        · subst hr0
          obtain ⟨o4, hrange4, hit4⟩ := hni2.map.range Tryz.underlying118
          have hk1' : ∀ x y, x < cnt p → (y ∈ ks2 true x ↔ E0 p x y) := fun x y hx => by rw [hk1 x y hx]; simp
          have hk2' : ∀ x y, y < cnt p → (x ∈ ks2 false y ↔ x < cnt p ∧ E0 p x y) := fun x y hy => by rw [hk2 x y hy]; simp
          clear hk1 hk2
          have hit2lt := hni2.lt.2
          have hni2 := hni2.map
          go_wp2
          go_loopg [13, 14] (cnt p) (GRel4 p (w.heap.size + 1) w.heap.size w5.heap.size (g.enc p) kv nd mb ks2 w)
          case atStart =>
            have hlen : kv.length = cnt p := by
              have := (List.perm_ext_iff_of_nodup hit4.1 (List.nodup_range (n := cnt p))).2 (fun r => by rw [hkv']; simp)
              simpa using this.length_eq
            refine ⟨kv, [], [], none, none, 0, 0, hlen, rfl, rfl, hit4, hgr5.alloc _, hgs.gr ((Gr.refl w5).alloc _), Own.nil _ _ _ _, Own.nil _ _ _ _, fun b h => ?_, List.nodup_nil, List.nodup_nil, fun r => ⟨fun h => ?_, fun h => absurd ((hkv' r).2 h.1) h.2.1⟩, fun r => ⟨fun h => ?_, fun h => absurd ((hkv' r).2 h.1) h.2.1⟩⟩
            · cases h
            · simp at h
            · simp at h
          case round =>
            rename World => w7
            clear hgs hit4 hni2 hrange4
            obtain ⟨rem4, lg, lf, A1, A2, c1, c2, hg4, rfl, rfl, hni4, hgr7, hgs7, ho1, ho2, hsep, hd1, hd2, hm1, hm2⟩ := hrel
            have hsz7 := hgr7.size
            rcases hni4.next (P := Tryz.prog) 0 with ⟨hr0, hnx4⟩ | ⟨r, hr, w8, hnx4, hent4, hni8, hf8, hs8⟩
            · subst hr0
              have hm1' : ∀ r, r ∈ lg ↔ r < cnt p ∧ kindAt p r ≠ 3 := fun r => by rw [hm1]; simp
              have hm2' : ∀ r, r ∈ lf ↔ r < cnt p ∧ kindAt p r = 3 := fun r => by rw [hm2]; simp
              clear hm1 hm2 hni4
              have hl2 : lf.length ≤ cnt p := nodup_length_le hd2 (fun x hx => ((hm2' x).1 hx).1)
              go_wp2_with (go_at_call 64; refine (sort_nodes hgs7 (fun x hx => ((hm2' x).1 hx).1) ho2 (by omega)).mono ?_; rintro e w8 ⟨rfl, fs, hperm, ho8, hf8⟩)
              have hpl : fs.length = lf.length := hperm.length_eq
              have hfsd : fs.Nodup := hperm.nodup_iff.2 hd2
              have hfsm : ∀ r, r ∈ fs ↔ r < cnt p ∧ kindAt p r = 3 := fun r => by rw [hperm.mem_iff, hm2']
              have hcm : Cm (cnt p) (w.heap.size + 1) (g.enc p) nd lg (.slice A1 lg.length c1) fs (.slice A2 fs.length c2) w mb ks2 w8 := by
                have hrow : ∀ b, (Value.slice A2 lf.length c2).ownBlock = some b → ∃ cur, w7.heap[b]? = some (.cells cur 83 (0, 0)) := fun b hb => ho2.row hb
                refine ⟨hgr7.step hf8 (fun b hb => by have := (ho2.blk b hb).1; omega), hgs7.fr hf8 (fun i hi h => by obtain ⟨cur, hc⟩ := hrow _ h; exact ne_cells hc (hgs7.node i hi) (by decide) rfl) (fun c i b hi hb h => by obtain ⟨cur, hc⟩ := hrow _ h; exact (hgs7.set c i b hi hb).1.ne hc rfl), ho1.fr hf8 (fun b hb h => hsep b hb h), ?_⟩
                rw [hpl]; exact ho8
              have hinv : Inv (cnt p) [] (EL p []) ks2 := ⟨fun x y hx _ _ _ => hk1' x y hx, fun x y hx hy _ _ => by rw [hk2' x y hy]; simp [hx, EL], fun c x y hx _ hy => ⟨hcm.gs.ltN c hx hy, by simp⟩⟩
              rw [← hpl]
              have hfl : fs.length ≤ cnt p := nodup_length_le hfsd (fun x hx => ((hfsm x).1 hx).1)
              clear ho8 ho2 ho1 hf8 hgs7 hgr7 hsep hperm hd2 hl2 hm2' hk1' hk2'
              clear hpl
              go_loopw [108] (GRel5 p (w.heap.size + 1) (g.enc p) nd lg (.slice A1 lg.length c1) fs (.slice A2 fs.length c2) w) (fun i _ => fs.length - (intOf i).toNat)
              case atStart => exact ⟨0, mb, ks2, by omega, rfl, hcm, by simpa using hinv⟩
              case round =>
                rename World => wa
                clear hcm hinv
                obtain ⟨t, mb0, ks0, htl, rfl, hcm, hinv⟩ := hrel
                by_cases hlt : t < fs.length
                · obtain ⟨g2, o2', cap2, cur2, he2, hok2, hg2, hcap2, hsz2, hcell2⟩ := hcm.o2.at_ (by omega)
                  simp only [Value.slice.injEq] at he2
                  obtain ⟨rfl, -, rfl⟩ := he2
                  obtain ⟨f, hft⟩ := get_lt hlt
                  have hfn : f < cnt p := ((hfsm f).1 (List.mem_of_getElem? hft)).1
                  have hfd : f ∉ fs.take t := not_mem_take hfsd hft
                  have y0 := hcell2 t (ptr (nd f)) (by simp [hft])
                  have y1 : wa.cell? ⟨nd f, 1, none⟩ = some (.map (mb0 false f)) := by rw [cell_row (hcm.gs.node f hfn)]; rfl
                  obtain ⟨o6, hrange6, hit6⟩ := hcm.gs.range false hfn
                  have hwa := hcm.gr.size
                  have hB1 : w.heap.size ≤ w.heap.size + 1 := by omega
                  simp only [ptr] at y0
                  clear hcell2
                  go_wp2
                  go_loopg [] (ks0 false f).length (GRel6 p (w.heap.size + 1) (g.enc p) nd lg (.slice A1 lg.length c1) fs (.slice (some ⟨g2, o2', none⟩) fs.length c2) w f wa.heap.size mb0 ks0)
                  case atStart => exact ⟨_, mb0, ks0, rfl, hit6, rfl, rfl, hcm.grow ((Gr.refl wa).alloc _), K6_start⟩
                  case round =>
                    rename World => wb
                    clear hit6
                    obtain ⟨rem6, mb6, ks6, hg6, hi6, hm6, hm6', hcm6, hK6⟩ := hrel
                    have hi6n := hi6.sub
                    have hwb := hcm6.gr.size
                    have hit6lt : wa.heap.size < wb.heap.size := by obtain ⟨_, _, _, _, h⟩ := hi6.iter; exact heap_lt h
                    rcases hi6.next 0 with ⟨hr6, hnx6⟩ | ⟨q, hq, wc, hnx6, hent6, hi6c, hfc, hsc⟩
                    · subst hr6
                      have y2 : wb.cell? ⟨nd f, 2, none⟩ = some (.map (mb0 true f)) := by rw [cell_row (hcm6.gs.node f hfn), ← hm6']; rfl
                      obtain ⟨o8, hrange8, hit8⟩ := hcm6.gs.range true hfn
                      rw [hm6', hK6.s0] at hit8
                      rw [hm6'] at hrange8
                      go_wp2
                      go_loopg [] (ks0 true f).length (GRel8 p (w.heap.size + 1) (g.enc p) nd lg (.slice A1 lg.length c1) fs (.slice (some ⟨g2, o2', none⟩) fs.length c2) w f wb.heap.size (mb0 true f) mb6 ks0)
                      case atStart => exact ⟨_, ks6, rfl, hit8, hcm6.grow ((Gr.refl wb).alloc _), K8_start hK6⟩
                      case round =>
                        rename World => wd
                        clear hit8 y2 hcm6 hrange8
                        obtain ⟨rem8, ks8, hg8, hi8, hcm8, hK8⟩ := hrel
                        have hi8n := hi8.sub
                        rcases hi8.next 0 with ⟨hr8, hnx8⟩ | ⟨s, hs, we, hnx8, hent8, hi8c, hfe, hse⟩
                        · subst hr8
                          go_wp2
                          go_roundw
                          case rel =>
                            refine ⟨t + 1, mb6, ks8, by omega, by go_num, hcm8, ?_⟩
                            rw [take_snoc hft, EL_snoc]
                            exact K8_end hK8 hinv hfn hfd
                          case measure => simp [intOf]; omega
                        · obtain ⟨hs0, hsn⟩ := hi8n.2 s hs
                          have hcme := hcm8.it hi8.iter hwb hfe
                          have y3 : we.cell? ⟨nd s, 1, none⟩ = some (.map (mb6 false s)) := by rw [cell_row (hcme.gs.node s hsn)]; rfl
                          have hfq : f ∈ ks8 false s := by
                            rw [hK8.pred f s hsn]
                            have hlive := hinv.live true f s hfn hfd hs0
                            exact ⟨.inl ((hinv.pred f s hfn hsn hfd hlive.2).2 ((hinv.succ f s hfn hsn hfd hlive.2).1 hs0)), fun h => h.2.2 hs⟩
                          obtain ⟨wf, hdel, hgsf, hff, hsf⟩ := hcme.gs.del false hsn hfn hfq 0 #[87, 83] rfl
                          simp only [ptr] at hdel hnx8 hent8
                          go_wp2
                          go_roundg (rem8.erase s).length
                          case rel => exact ⟨_, _, rfl, hi8c.at_ hcme.gs hm6' hfn hsn (fun e => by simp at e) hff, hcme.step hB1 hsn hff hgsf, K8_del hK8 hi8n.1 hs0 (hcme.gs.nodup false hsn)⟩
                          case measure =>
                            rw [List.length_erase_of_mem hs]
                            have := List.length_pos_of_mem hs
                            omega
                    · obtain ⟨hq0, hqn⟩ := hi6n.2 q hq
                      have hcmc := hcm6.it hi6.iter hwa hfc
                      have hneq := hcmc.gs.neq hqn hfn
                      by_cases hqf : q = f
                      · subst hqf
                        simp only [ne_eq, not_true_eq_false, decide_false, ptr] at hneq hnx6 hent6
                        go_wp2
                        go_roundg (rem6.erase q).length
                        case rel => exact ⟨_, mb6, ks6, rfl, hi6c, hm6, hm6', hcmc, K6_skip hK6 hi6n.1⟩
                        case measure =>
                          rw [List.length_erase_of_mem hq]
                          have := List.length_pos_of_mem hq
                          omega
                      · simp only [ne_eq, hqf, not_false_eq_true, decide_true, ptr] at hneq hnx6 hent6
                        have y2 : wc.cell? ⟨nd f, 2, none⟩ = some (.map (mb6 true f)) := by rw [cell_row (hcmc.gs.node f hfn)]; rfl
                        obtain ⟨o7, hrange7, hit7⟩ := hcmc.gs.range true hfn
                        have hi6d := hi6c.fr ((Gr.refl wc).alloc o7) id (fun _ _ => id)
                        rw [hm6', hK6.s0] at hit7
                        rw [hm6'] at hrange7 y2
                        simp only [hsc] at hrange7 hit7
                        go_wp2
                        go_loopg [] (ks0 true f).length (GRel7 p (w.heap.size + 1) (g.enc p) nd lg (.slice A1 lg.length c1) fs (.slice (some ⟨g2, o2', none⟩) fs.length c2) w f wa.heap.size mb0 ks0 q wb.heap.size rem6)
                        case atStart => exact ⟨_, mb6, ks6, rfl, hit7, hi6d, hm6, hm6', hcmc.grow ((Gr.refl wc).alloc _), K7_start hK6⟩
                        case round =>
                          rename World => wd
                          clear hit7 hi6d hcmc y2
                          obtain ⟨rem7, mb7, ks7, hg7, hi7, hi6e, hm7, hm7', hcm7, hK7⟩ := hrel
                          have hi7n := hi7.sub
                          have hwd := hcm7.gr.size
                          have hit7lt : wb.heap.size < wd.heap.size := by obtain ⟨_, _, _, _, h⟩ := hi7.iter; exact heap_lt h
                          rcases hi7.next 0 with ⟨hr7, hnx7⟩ | ⟨s, hs, we, hnx7, hent7, hi7c, hfe, hse⟩
                          · subst hr7
                            have y2 : wd.cell? ⟨nd q, 2, none⟩ = some (.map (mb7 true q)) := by rw [cell_row (hcm7.gs.node q hqn)]; rfl
                            have hfq : f ∈ ks7 true q := by
                              rw [hK7.succ q f hqn]
                              have hlive := hinv.live false f q hfn hfd hq0
                              exact .inl ⟨(hinv.succ q f hqn hfn hlive.2 hfd).2 ((hinv.pred q f hqn hfn hlive.2 hfd).1 hq0), fun h => h.2.2.1 hq⟩
                            obtain ⟨we, hdel, hgse, hfe, hse⟩ := hcm7.gs.del true hqn hfn hfq 0 #[87, 83] rfl
                            simp only [ptr] at hdel
                            go_wp2
                            go_roundg (rem6.erase q).length
                            case rel =>
                              exact ⟨_, mb7, _, rfl, hi6e.at_ hcm7.gs hm7 hfn hqn (fun e => by simp at e) hfe, hm7, hm7', hcm7.step hB1 hqn hfe hgse, K7_end hK7 hi6n.1 hq0 hqf (hcm7.gs.nodup true hqn)⟩
                            case measure =>
                              rw [List.length_erase_of_mem hq]
                              have := List.length_pos_of_mem hq
                              omega
                          · obtain ⟨hs0, hsn⟩ := hi7n.2 s hs
                            have hwble : w.heap.size ≤ wb.heap.size := hwb
                            have hcme := hcm7.it hi7.iter hwble hfe
                            have hneq7 := hcme.gs.neq hsn hfn
                            have hi6f := hi6e.fr hfe (by omega) (fun b hb e => hcm7.gs.atNe hi7.iter hfn (c := false) (.inr (by rw [hm7, hb, e])))
                            by_cases hsf : s = f
                            · subst hsf
                              simp only [ne_eq, not_true_eq_false, decide_false, ptr] at hneq7 hnx7 hent7
                              go_wp2
                              go_roundg (rem7.erase s).length
                              case rel => exact ⟨_, mb7, ks7, rfl, hi7c, hi6f, hm7, hm7', hcme, K7_skip hK7 hi7n.1⟩
                              case measure =>
                                rw [List.length_erase_of_mem hs]
                                have := List.length_pos_of_mem hs
                                omega
                            · simp only [ne_eq, hsf, not_false_eq_true, decide_true, ptr] at hneq7 hnx7 hent7
                              have hBe : w.heap.size + 1 ≤ we.heap.size := by omega
                              go_wp2_with (first
                                | (go_at_call 63; refine (hcmf.gs.add false hsn hqn (by have := hff.size; omega)).mono ?_; rintro e wg ⟨rfl, mbg, hgsg, hfg, -, hmbg⟩)
                                | (go_at_call 63; refine (hcme.gs.add true hqn hsn hBe).mono ?_; rintro e wf ⟨rfl, mbf, hgsf, hff, -, hmbf⟩; have hcmf := hcme.step hB1 hqn hff hgsf))
                              go_roundg (rem7.erase s).length
                              case rel =>
                                have e1 : mbf true f = mb0 true f := (hmbf true f (fun e => hqf e.2.symm)).trans hm7'
                                have e2 : mbf false f = mb0 false f := (hmbf false f (fun e => by simp at e)).trans hm7
                                exact ⟨_, mbg, _, rfl, (hi7c.at_ hcme.gs hm7' hfn hqn (fun e => hqf e.2.symm) hff).at_ hcmf.gs e1 hfn hsn (fun e => by simp at e) hfg, (hi6f.at_ hcme.gs hm7 hfn hqn (fun e => by simp at e) hff).at_ hcmf.gs e2 hfn hsn (fun e => hsf e.2.symm) hfg,
                                  (hmbg false f (fun e => hsf e.2.symm)).trans e2, (hmbg true f (fun e => by simp at e)).trans e1, hcmf.step hB1 hsn hfg hgsg, K7_add hK7 hi7n.1 hs0 hqf hsf⟩
                              case measure =>
                                rw [List.length_erase_of_mem hs]
                                have := List.length_pos_of_mem hs
                                omega
                · have ht0 : t = fs.length := by omega
                  subst ht0
                  rw [List.take_length] at hinv
                  go_wp2
                  have hl1 : lg.length ≤ cnt p := nodup_length_le hd1 (fun x hx => ((hm1' x).1 hx).1)
                  go_loopw [168] (GRel9 p (w.heap.size + 1) (g.enc p) nd lg (.slice A1 lg.length c1) mb0 ks0 w) (fun i _ => lg.length - (intOf i).toNat)
                  case atStart => exact ⟨0, _, _, by omega, rfl, hcm.gr, hcm.gs, hcm.o1, fun j r hj => by omega⟩
                  case round =>
                    rename World => wb
                    clear hcm
                    obtain ⟨t, ix, dp, htl, rfl, hgrb, hgsb, ho1, hix⟩ := hrel
                    by_cases hlt : t < lg.length
                    · obtain ⟨g1, o1', cap1, cur1, he1, hok1, hg1, hcap1, hsz1, hcell1⟩ := ho1.at_ (by omega)
                      simp only [Value.slice.injEq] at he1
                      obtain ⟨rfl, -, rfl⟩ := he1
                      obtain ⟨f, hft⟩ := get_lt hlt
                      have hfn : f < cnt p := ((hm1' f).1 (List.mem_of_getElem? hft)).1
                      have y0 := hcell1 t (ptr (nd f)) (by simp [hft])
                      simp only [ptr] at y0
                      clear hcell1
                      have hnode := hgsb.node f hfn
                      have y2 : wb.cell? ⟨nd f, 2, none⟩ = some (.map (mb0 true f)) := by rw [cell_row hnode]; rfl
                      have y3 : wb.cell? ⟨nd f, 3, none⟩ = some (.int .i64 (ix f)) := by rw [cell_row hnode]; rfl
                      have y4 : wb.cell? ⟨nd f, 4, none⟩ = some (.int .i64 (dp f)) := by rw [cell_row hnode]; rfl
                      have yf := fun i => frozen_row hnode i
                      have hlen := hgsb.len true hfn (fr_set wb (nd f) 3 (.int .i64 (t : Int))) 3
                      go_wp2
                      go_roundw
                      case rel =>
                        have hf2 : Fr (fun j => j = nd f) wb _ := (fr_set wb (nd f) 3 (.int .i64 (t : Int))).trans (fr_set _ (nd f) 4 (.int .i64 ((ks0 true f).length : Int)))
                        have hge := hgsb.ge f hfn
                        refine ⟨t + 1, _, _, by omega, by go_num, hgrb.step hf2 (fun b hb => by omega), hgsb.setIx hfn (t : Int) ((ks0 true f).length : Int), ho1.fr hf2 (fun b hb e => hgsb.rowNe (ho1.row hb) hfn (c := true) (.inl e)), fun j r hj hr => ?_⟩
                        by_cases e : r = f
                        · have ej : j = t := by
                            rw [e] at hr
                            obtain ⟨h1, h2⟩ := List.getElem?_eq_some_iff.1 hr
                            obtain ⟨h3, h4⟩ := List.getElem?_eq_some_iff.1 hft
                            exact (List.getElem_inj hd1).1 (h2.trans h4.symm)
                          simp [e, ej]
                        · have ej : j ≠ t := fun ej => by
                            rw [ej, hft] at hr
                            cases hr
                            exact e rfl
                          simp only [if_neg e]
                          exact hix j r (by omega) hr
                      case measure => simp [intOf]; omega
                    · have ht0 : t = lg.length := by omega
                      subst ht0
                      go_wp2
                      go_ret
                      exact ⟨_, lg, _, _, nd, mb0, ks0, ix, dp, fs, rfl, by omega, hgrb, ho1, hgsb, hd1, hm1', hfsd, hfsm, hinv, fun j r hj => hix j r (List.getElem?_eq_some_iff.1 hj).1 hj⟩
            · replace hent4 := hent4 Tryz.prog
              have hrn : r < cnt p := hni4.2.1 r (hni4.2.2.2.1 r hr)
              have h4lt := hni4.lt.2
              have hnd4 := hni4.2.2.1
              have hg8 : Gr w w8 := hgr7.step hf8 (fun b hb => by omega)
              have hgs8 := hgs7.fr hf8 (fun i hi e => hgs7.iterNe hni4 hi (c := true) (.inl e.symm)) (fun c i b hi hb e => hgs7.iterNe hni4 hi (.inr (e ▸ hb)))
              have hnode := hgs8.node r hrn
              have z0 : w8.cell? ⟨nd r, 0, none⟩ = some (g.enc p r) := by rw [cell_row hnode]; rfl
              have hrow : ∀ {v : Value} {n : Nat} {cs : List Value}, Own w7 (fun b => w.heap.size + 1 ≤ b) 83 1 v n cs → ∀ b, v.ownBlock = some b → ¬ b = w5.heap.size := fun ho b hb e => by
                obtain ⟨cur, hc⟩ := ho.row hb
                obtain ⟨_, _, _, _, es, c, s, _, h3, _⟩ := hni4
                rw [e, h3] at hc
                cases hc
              have ho1' := ho1.fr hf8 (hrow ho1)
              have ho2' := ho2.fr hf8 (hrow ho2)
              have htf := fun u => assert_func p g r u
              simp only [Gh.enc, ifc, ptr] at hnx4 hent4 z0 htf
              have hl1 : lg.length ≤ cnt p := nodup_length_le hd1 (fun x hx => ((hm1 x).1 hx).1)
              have hl2 : lf.length ≤ cnt p := nodup_length_le hd2 (fun x hx => ((hm2 x).1 hx).1)
              have hnr : r ∉ lg ∧ r ∉ lf := ⟨fun h => ((hm1 r).1 h).2.1 hr, fun h => ((hm2 r).1 h).2.1 hr⟩
              by_cases hk3 : kindAt p r = 3
              · have hk3' : (it p (own p r)).kind = 3 := hk3
                simp only [hk3', if_true] at htf
                obtain ⟨v9, w9, Hr9, ho9, hf9, hf9b, hblk9, -⟩ := app1 (P := Tryz.prog) (t := 76) (ty := 76) elem83 Tryz.underlying76 ho2' (ptr (nd r)) rfl (by omega) (by omega) (by omega)
                obtain ⟨A9, c9, rfl⟩ := ho9.val
                simp only [hs8, ptr] at Hr9
                go_wp2_with (at_builtin; refine wpList_appended rfl _ _ _ _ rfl rfl rfl Hr9 ?_)
                go_roundg (rem4.erase r).length
                case rel =>
                  have hrow8 : ∀ b, (Value.slice A2 lf.length c2).ownBlock = some b → ∃ cur, w8.heap[b]? = some (.cells cur 83 (0, 0)) := fun b hb => ho2'.row hb
                  refine ⟨rem4.erase r, lg, lf ++ [r], A1, A9, c1, c9, rfl, by simp, by simp, hni8.fr hf9 (fun h => by have := (ho2'.blk _ h).1; omega) (fun h => hrow ho2 _ h rfl), hg8.step hf9 (fun b hb => by have := (ho2'.blk _ hb).1; omega),
                    hgs8.fr hf9 (fun i hi h => by obtain ⟨cur, hc⟩ := hrow8 _ h; exact ne_cells hc (hgs8.node i hi) (by decide) rfl) (fun c i b hi hb h => by obtain ⟨cur, hc⟩ := hrow8 _ h; exact (hgs8.set c i b hi hb).1.ne hc rfl), ho1'.fr hf9 (fun b hb hb2 => hsep b hb hb2), by simpa using ho9, fun b hb hb2 => (hblk9 b hb2).elim (fun h => hsep b hb h) (fun h => by have := (ho1'.blk b hb).2; omega), hd1, nodup_snoc hd2 hnr.2, fun i => ?_, fun i => ?_⟩
                  · rw [List.Nodup.mem_erase_iff hnd4]
                    by_cases e : i = r
                    · subst e; simp [hnr, hk3, hrn]
                    · simp [e, hm1]
                  · rw [List.Nodup.mem_erase_iff hnd4]
                    by_cases e : i = r
                    · subst e; simp [hnr, hk3, hrn]
                    · simp [e, hm2]
                case measure =>
                  rw [List.length_erase_of_mem hr]
                  have := List.length_pos_of_mem hr
                  omega
              · have hk3' : ¬ (it p (own p r)).kind = 3 := hk3
                simp only [if_neg hk3'] at htf
                obtain ⟨v9, w9, Hr9, ho9, hf9, hf9b, hblk9, -⟩ := app1 (P := Tryz.prog) (t := 76) (ty := 76) elem83 Tryz.underlying76 ho1' (ptr (nd r)) rfl (by omega) (by omega) (by omega)
                obtain ⟨A9, c9, rfl⟩ := ho9.val
                simp only [hs8, ptr] at Hr9
                go_wp2_with (at_builtin; refine wpList_appended rfl _ _ _ _ rfl rfl rfl Hr9 ?_)
                go_roundg (rem4.erase r).length
                case rel =>
                  have hrow8 : ∀ b, (Value.slice A1 lg.length c1).ownBlock = some b → ∃ cur, w8.heap[b]? = some (.cells cur 83 (0, 0)) := fun b hb => ho1'.row hb
                  refine ⟨rem4.erase r, lg ++ [r], lf, A9, A2, c9, c2, rfl, by simp, by simp, hni8.fr hf9 (fun h => by have := (ho1'.blk _ h).1; omega) (fun h => hrow ho1 _ h rfl), hg8.step hf9 (fun b hb => by have := (ho1'.blk _ hb).1; omega),
                    hgs8.fr hf9 (fun i hi h => by obtain ⟨cur, hc⟩ := hrow8 _ h; exact ne_cells hc (hgs8.node i hi) (by decide) rfl) (fun c i b hi hb h => by obtain ⟨cur, hc⟩ := hrow8 _ h; exact (hgs8.set c i b hi hb).1.ne hc rfl), by simpa using ho9, ho2'.fr hf9 (fun b hb hb2 => hsep b hb2 hb), fun b hb hb2 => (hblk9 b hb).elim (fun h => hsep b h hb2) (fun h => by have := (ho2'.blk b hb2).2; omega), nodup_snoc hd1 hnr.1, hd2, fun i => ?_, fun i => ?_⟩
                  · rw [List.Nodup.mem_erase_iff hnd4]
                    by_cases e : i = r
                    · subst e; simp [hnr, hk3, hrn]
                    · simp [e, hm1]
                  · rw [List.Nodup.mem_erase_iff hnd4]
                    by_cases e : i = r
                    · subst e; simp [hnr, hk3, hrn]
                    · simp [e, hm2]
                case measure =>
                  rw [List.length_erase_of_mem hr]
                  have := List.length_pos_of_mem hr
                  omega
        · replace hent2 := hent2 Tryz.prog
          have hrn : r < cnt p := hni2.2.1 r (hni2.2.2.2.1 r hr)
          obtain ⟨ho1, ho2, ho3⟩ := own_spec hrn
          have hwr := hgr.size
          have hg6 : Gr w w6 := hgr5.step hf6 (fun b hb => by omega)
          have hgs6 := hgs.fr hf6 (fun i hi e => hgs.iterNe hni2 hi (c := true) (.inl e.symm)) (fun c i b hi hb e => hgs.iterNe hni2 hi (.inr (e ▸ hb)))
          have hb6 := hb.gr hg6
          have hlook := hb6.omap.look hb6.keyOk Tryz.underlying78 zero110 hrn
          rw [if_pos (by simpa using hrn)] at hlook
          have zdm : w6.cell? ⟨g.dc (own p r), 2, none⟩ = some (.map (some (g.dm (own p r)))) := by rw [cell_row (hb6.dcl _ ho1)]; rfl
          obtain ⟨o3, hrange3, hit3⟩ := (hb6.dep _ ho1).range Tryz.underlying113
          simp only [Gh.enc, ifc, ptr, hs6] at hnx2 hent2 hlook hrange3
          have hit2lt := hni2.lt.2
          have hnd2 := hni2.2.2.1
          have hit6 := hni6.fr ((Gr.refl w6).alloc o3) id id
          have hdlt := (hb.dep _ ho1).lt
          go_wp2
          go_loopg [] ((ks (own p r)).length) (GRel3 p (w.heap.size + 1) w.heap.size wr.heap.size (g.enc p) kv nd w r w5.heap.size (g.dm (own p r)) (ks (own p r)) rem2)
          case atStart =>
            refine ⟨_, mb, ks2, rfl, hs6 ▸ hit3, hit6, hg6.alloc _, hgs6.gr ((Gr.refl w6).alloc _), fun x y hx => ?_, fun x y hy => ?_⟩
            · rw [hk1 x y hx]
              constructor
              · exact .inl
              · rintro (h | ⟨rfl, h1, h2⟩)
                · exact h
                · exact absurd ((hks _ _ ho1).2 h1) h2
            · rw [hk2 x y hy]
              constructor
              · exact .inl
              · rintro (h | ⟨rfl, h1, h2⟩)
                · exact h
                · exact absurd ((hks _ _ ho1).2 h1) h2
          case round =>
            rename World => w7
            clear hit3 hit6 hgs6 hgs hni2 hni6 hb6 zdm hlook hrange3
            obtain ⟨rem3, mb7, ks7, hg7, hni3, hni7, hgr7, hgs7, hk3, hk4⟩ := hrel
            have hsz7 := hgr7.size
            rcases hni3.next (P := Tryz.prog) 0 with ⟨hr3, hnx3⟩ | ⟨d, hd, w8, hnx3, hent3, hni8, hf8, hs8⟩
            · go_wp2
              go_roundg (rem2.erase r).length
              case rel =>
                refine ⟨_, mb7, ks7, rfl, hni7, hgr7, hgs7, fun x y hx => ?_, fun x y hy => ?_⟩
                · rw [hk3 x y hx, List.Nodup.mem_erase_iff hnd2, hr3]
                  by_cases e : x = r
                  · subst e; simp [hr]
                  · simp [e]
                · rw [hk4 x y hy, List.Nodup.mem_erase_iff hnd2, hr3]
                  by_cases e : x = r
                  · subst e; simp [hr, hrn]
                  · simp [e]
              case measure =>
                rw [List.length_erase_of_mem hr]
                have := List.length_pos_of_mem hr
                omega
            · replace hent3 := hent3 Tryz.prog
              have hdn : d < cnt p := hni3.2.1 d (hni3.2.2.2.1 d hd)
              have hEd : E0 p r d := (hks _ _ ho1).1 (hni3.2.2.2.1 d hd)
              have hw5 := hgr5.size
              have hg8 : Gr w w8 := hgr7.step hf8 (fun b hb => by omega)
              have hgs8 := hgs7.fr hf8 (fun i hi e => hgs7.iterNe hni3 hi (c := true) (.inl e.symm)) (fun c i b hi hb e => hgs7.iterNe hni3 hi (.inr (e ▸ hb)))
              have hne : wr.heap.size ≠ w5.heap.size := by omega
              have h3lt := hni3.lt.2
              have hni9 := hni7.fr hf8 (by omega) hne
              have hlook3 := hni9.map.look (hb.keyDep hg8) Tryz.underlying118 zero83 hdn
              rw [if_pos ((hkv' d).2 hdn)] at hlook3
              simp only [Gh.enc, ifc, ptr] at hnx3 hent3 hlook3
              have hw8 := hg8.size
              go_wp2_with (first
                | (go_at_call 63; refine (hgs9.add false hdn hrn (by have := hf9.size; omega)).mono ?_; rintro e w10 ⟨rfl, mb10, hgs10, hf10, -⟩)
                | (go_at_call 63; refine (hgs8.add true hrn hdn (by omega)).mono ?_; rintro e w9 ⟨rfl, mb9, hgs9, hf9, -⟩))
              go_roundg (rem3.erase d).length
              case rel =>
                have hnd3 := hni3.2.2.1
                have hi3 := (hni8.fr hf9 (hgs8.lowNe (by omega) hrn) (hgs8.iterNe hni8 hrn)).fr hf10 (hgs9.lowNe (by omega) hdn) (hgs9.iterNe (hni8.fr hf9 (hgs8.lowNe (by omega) hrn) (hgs8.iterNe hni8 hrn)) hdn)
                have hi9 := (hni9.fr hf9 (hgs8.lowNe (by omega) hrn) (hgs8.iterNe hni9 hrn)).fr hf10 (hgs9.lowNe (by omega) hdn) (hgs9.iterNe (hni9.fr hf9 (hgs8.lowNe (by omega) hrn) (hgs8.iterNe hni9 hrn)) hdn)
                refine ⟨_, mb10, _, rfl, hi3, hi9, (hg8.step hf9 (fun b hb => by have := hgs8.atGe hrn hb; omega)).step hf10 (fun b hb => by have := hgs9.atGe hdn hb; omega), hgs10, fun x y hx => ?_, fun x y hy => ?_⟩
                · rw [mem_setKs_put, mem_setKs_put, hk3 x y hx, List.Nodup.mem_erase_iff hnd3]
                  by_cases e : x = r
                  · subst e
                    by_cases e2 : y = d
                    · subst e2; simp [hd, hEd]
                    · simp [e2]
                  · simp [e]
                · rw [mem_setKs_put, mem_setKs_put, hk4 x y hy, List.Nodup.mem_erase_iff hnd3]
                  by_cases e : x = r
                  · subst e
                    by_cases e2 : y = d
                    · subst e2; simp [hd, hEd]
                    · simp [e2]
                  · simp [e]
              case measure =>
                rw [List.length_erase_of_mem hd]
                have := List.length_pos_of_mem hd
                omega
    · replace hent := hent Tryz.prog
      have hrn : r < cnt p := by simpa using hni.2.2.2.1 r hr
      have hg2 : Gr w w2 := hgr.step hf2 (fun b hb => by omega)
      have hg3 : Gr w2 (w2.alloc (.cells #[g.enc p r, .map none, .map none, .int .i64 0, .int .i64 0] 89)) := (Gr.refl w2).alloc _
      obtain ⟨w4, hput, hM4, hf4, hs4⟩ := ((hM.fr hf2 (by omega)).fr hg3 id).put (hb.keyDep (hg2.trans hg3)) Tryz.underlying118 hrn (ptr w2.heap.size)
      have hMlt := hM.lt
      have hnew := hf4.heap (heap_alloc_new w2 (.cells #[g.enc p r, .map none, .map none, .int .i64 0, .int .i64 0] 89)) (show ¬ w2.heap.size = w.heap.size by omega)
      simp only [Gh.enc, ifc, ptr, hs2] at hput hnx hent
      go_wp2
      go_roundg (rem.erase r).length
      case rel =>
        have hrk : r ∉ kv := fun h => ((hkv r).1 h).2 hr
        have hold : ∀ i, i ∈ kv → nd i < wr.heap.size := fun i hi => heap_lt (hnd i hi).1
        have hmem : ∀ i, i ∈ putKs kv r ↔ i ∈ kv ∨ i = r := fun i => by simp [putKs, hrk]
        refine ⟨rem.erase r, putKs kv r, fun i => if i = r then w2.heap.size else nd i, rfl, (hni2.fr hg3 id id).fr hf4 (by omega) (by omega), (hg2.trans hg3).step hf4 (fun b hb => by omega), ?_, ?_, ?_, ?_⟩
        · refine hM4.congr (fun _ _ => rfl) (fun k hk => ?_) hM4.2.1
          simp only [putVal]
          split <;> rfl
        · intro i
          rw [hmem, hkv, List.Nodup.mem_erase_iff hni.2.2.1]
          by_cases e : i = r
          · subst e; simp [hrn]
          · simp [e]
        · intro i hi
          by_cases e : i = r
          · subst e; simp only [if_true]; exact ⟨hnew, by omega⟩
          · simp only [if_neg e]
            have hi := ((hmem i).1 hi).resolve_right e
            have hne : nd i ≠ w.heap.size := (hM.ne (hnd i hi).1).symm
            have hne2 : nd i ≠ w.heap.size + 1 := fun e' => by
              obtain ⟨_, _, _, _, es, c, s, _, h3, _⟩ := hni
              have := (hnd i hi).1
              rw [e', h3] at this
              cases this
            exact ⟨hf4.heap (Fr.heap hg3 (hf2.heap (hnd i hi).1 hne2) id) hne, (hnd i hi).2⟩
        · intro i j hi hj he
          by_cases e : i = r <;> by_cases e' : j = r
          · omega
          · simp only [e, if_true, if_neg e'] at he
            have := hold j (((hmem j).1 hj).resolve_right e')
            omega
          · simp only [e', if_true, if_neg e] at he
            have := hold i (((hmem i).1 hi).resolve_right e)
            omega
          · simp only [if_neg e, if_neg e'] at he
            exact hinj i j (((hmem i).1 hi).resolve_right e) (((hmem j).1 hj).resolve_right e') he
      case measure =>
        rw [List.length_erase_of_mem hr]
        have := List.length_pos_of_mem hr
        omega
end Go.Proofs.YtelfaljidgfphaaGreat
