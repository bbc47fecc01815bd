/-
  Sets of nodes: the walk of 'nodeSet.add', and what a graph's nodes and sets are.
-/
import Derived.Test.YtelfaljidgfphaaGreatI5
namespace Go.Proofs.YtelfaljidgfphaaGreat
open Go.RowKit

theorem bodyPost_end0' {P : Program} {fn : Func} {R : Ending → World → Prop} {a : Act} {w : World} (hr : fn.results = #[]) (hd : a.defers = []) (hR : R (.returned (.tuple #[])) w) : bodyPost P fn R .normal a w :=
  bodyPost_end (v := .tuple #[]) (by simp [results, hr]) hd hR
theorem und87 : Tryz.prog.underlying 87 = some (.map 83 4) := Tryz.underlying87
theorem eql87 (m : Option Nat) (u : World) : (binOp BinOp.eql 87 (.map m) (.map none)).run Tryz.prog u = .ok (.bool (decide (m = none))) u := by
  have h : (Op.equal 87 (.map m) (.map none)).run Tryz.prog u = .ok (decide (m = none)) u := by
    show (Op.equalIn (9999 + 1) 87 _ _).run Tryz.prog u = _
    rw [Op.equalIn]
    cases m <;> simp [run_underlying und87]
  simp [binOp, h]

set_option maxRecDepth 100000 in
/-- 's.add(p)', where s holds a map. -/
theorem add_some (w : World) (b o m : Nat) {enc : Nat → Value} {n : Nat} {ks : List Nat} {val : Nat → Value} (hc : w.cell? ⟨b, o, none⟩ = some (.map (some m))) (hn : NMap w m enc n ks val) (K : KeyOk Tryz.prog w 83 enc n) {k : Nat} (hk : k < n) :
    Calls Tryz.prog 63 #[.pointer (some ⟨b, o, none⟩), enc k] w (fun e w' => e = .returned (.tuple #[]) ∧ NMap w' m enc n (putKs ks k) (putVal val k (.bool true)) ∧ Fr (fun i => i = m) w w' ∧ w'.heap.size = w.heap.size) := by
  obtain ⟨w', hput, h1, h2, h3⟩ := hn.put K Tryz.underlying87 hk (.bool true)
  have heq := fun m u => eql87 m u
  go_enter Tryz.func63, Tryz.ntmps63
  go_wp2
  refine bodyPost_end0' rfl rfl ?_
  exact ⟨rfl, h1, h2, h3⟩

set_option maxRecDepth 100000 in
/-- 's.add(p)', where s holds none yet. -/
theorem add_none (w : World) (b o : Nat) {c : Array Value} {e : Nat} {enc : Nat → Value} {n : Nat} (hc : w.heap[b]? = some (.cells c e (0, 0))) (hz : c[o]? = some (.map none)) {k : Nat} (hk : k < n)
    (K : KeyOk Tryz.prog ((w.alloc (.map #[] 0)).setCell ⟨b, o, none⟩ (.map (some w.heap.size))) 83 enc n) :
    Calls Tryz.prog 63 #[.pointer (some ⟨b, o, none⟩), enc k] w (fun e' w' => e' = .returned (.tuple #[]) ∧ NMap w' w.heap.size enc n [k] (fun _ => .bool true) ∧ w'.heap[b]? = some (.cells (c.setIfInBounds o (.map (some w.heap.size))) e (0, 0)) ∧ Fr (fun i => i = b) w w') := by
  have hb := heap_lt hc
  have hg : Gr w (w.alloc (.map #[] 0)) := (Gr.refl w).alloc _
  have hc1 := Fr.heap hg hc id
  have hm : NMap ((w.alloc (.map #[] 0)).setCell ⟨b, o, none⟩ (.map (some w.heap.size))) w.heap.size enc n [] (fun _ => .bool true) := (NMap.made w enc n _).fr (fr_set _ b o _) (by omega)
  obtain ⟨w', hput, h1, h2, h3⟩ := hm.put K Tryz.underlying87 hk (.bool true)
  have heq := fun m u => eql87 m u
  have hmk := fun u => run_makeMap (P := Tryz.prog) 87 u
  rw [World.setCell_alloc_past _ _ _ _ hb] at hput
  have z0 := (cell_row hc o).trans hz
  have z1 := (cell_row hc1 o).trans hz
  have z2 := frozen_row hc1 o
  have z3 : ((w.alloc (.map #[] 0)).setCell ⟨b, o, none⟩ (.map (some w.heap.size))).cell? ⟨b, o, none⟩ = some (.map (some w.heap.size)) := World.cell?_setCell_same' _ _ _ (by rw [z1]; rfl)
  have hrow := h2.heap (heap_setCell_same _ _ o _ _ (.map (some w.heap.size)) hc1) (by omega)
  have hff : Fr (fun i => i = b) w w' := (Fr.mono hg (fun _ _ h => h.elim)).trans (fr_set _ b o (.map (some w.heap.size))) |>.step h2 (fun i hi h => by omega)
  go_enter Tryz.func63, Tryz.ntmps63
  go_wp2
  refine bodyPost_end0' rfl rfl ?_
  exact ⟨rfl, by simpa [putKs] using h1.congr (fun _ _ => rfl) (fun j _ => by simp [putVal]) h1.2.1, hrow, hff⟩

/-- The nodes of a graph: where each lies, what sets it has (false: those that need it; true: those that it needs). -/
structure Gs (B n : Nat) (ec : Nat → Value) (nd : Nat → Nat) (mb : Bool → Nat → Option Nat) (ks : Bool → Nat → List Nat) (ix dp : Nat → Int) (w : World) : Prop where
  node : ∀ r, r < n → w.heap[nd r]? = some (.cells #[ec r, .map (mb false r), .map (mb true r), .int .i64 (ix r), .int .i64 (dp r)] 89 (0, 0))
  ge : ∀ r, r < n → B ≤ nd r
  inj : ∀ r s, r < n → s < n → nd r = nd s → r = s
  nil : ∀ c r, r < n → mb c r = none → ks c r = []
  set : ∀ c r b, r < n → mb c r = some b → NMap w b (fun i => ptr (nd i)) n (ks c r) (fun _ => .bool true) ∧ B ≤ b
  sep : ∀ c r c' r' b, r < n → r' < n → mb c r = some b → mb c' r' = some b → c = c' ∧ r = r'

def offS (c : Bool) : Nat := if c then 2 else 1
/-- The blocks that a change of a set turns. -/
def AtS (nd : Nat → Nat) (mb : Bool → Nat → Option Nat) (c : Bool) (r : Nat) (b : Nat) : Prop := b = nd r ∨ mb c r = some b
def setKs (ks : Bool → Nat → List Nat) (c : Bool) (r : Nat) (l : List Nat) : Bool → Nat → List Nat := fun c' r' => if c' = c ∧ r' = r then l else ks c' r'

section
variable {B n : Nat} {ec : Nat → Value} {nd : Nat → Nat} {mb : Bool → Nat → Option Nat} {ks : Bool → Nat → List Nat} {ix dp : Nat → Int} {w w' : World}

theorem Gs.keyOk (h : Gs B n ec nd mb ks ix dp w) : KeyOk Tryz.prog w 83 (fun i => ptr (nd i)) n := keyOk_ptr ptr83 (fun r hr => ⟨_, _, h.node r hr⟩) h.inj

theorem Gs.fr {S : Nat → Prop} (h : Gs B n ec nd mb ks ix dp w) (hf : Fr S w w') (h1 : ∀ r, r < n → ¬ S (nd r)) (h2 : ∀ c r b, r < n → mb c r = some b → ¬ S b) : Gs B n ec nd mb ks ix dp w' where
  node r hr := hf.heap (h.node r hr) (h1 r hr)
  ge := h.ge
  inj := h.inj
  nil := h.nil
  set c r b hr hb := ⟨(h.set c r b hr hb).1.fr hf (h2 c r b hr hb), (h.set c r b hr hb).2⟩
  sep := h.sep
theorem Gs.gr (h : Gs B n ec nd mb ks ix dp w) (hg : Gr w w') : Gs B n ec nd mb ks ix dp w' := h.fr hg (fun _ _ => id) (fun _ _ _ _ _ => id)

theorem Gs.setNe (h : Gs B n ec nd mb ks ix dp w) {c : Bool} {r s b : Nat} (hr : r < n) (hs : s < n) (hb : mb c r = some b) : b ≠ nd s := (h.set c r b hr hb).1.ne (h.node s hs)

/-- A set that is there is turned. -/
theorem Gs.turn (h : Gs B n ec nd mb ks ix dp w) {c : Bool} {r m : Nat} (hr : r < n) (hm : mb c r = some m) {l : List Nat} (hf : Fr (fun b => b = m) w w') (hn : NMap w' m (fun i => ptr (nd i)) n l (fun _ => .bool true)) :
    Gs B n ec nd mb (setKs ks c r l) ix dp w' where
  node s hs := hf.heap (h.node s hs) (fun e => h.setNe hr hs hm e.symm)
  ge := h.ge
  inj := h.inj
  nil c' r' hr' hb := by
    unfold setKs
    by_cases e : c' = c ∧ r' = r
    · obtain ⟨rfl, rfl⟩ := e; rw [hm] at hb; cases hb
    · rw [if_neg e]; exact h.nil c' r' hr' hb
  set c' r' b hr' hb := by
    unfold setKs
    by_cases e : c' = c ∧ r' = r
    · rw [if_pos e]
      obtain ⟨rfl, rfl⟩ := e
      rw [hm] at hb
      cases hb
      exact ⟨hn, (h.set c' r' m hr' hm).2⟩
    · rw [if_neg e]
      refine ⟨(h.set c' r' b hr' hb).1.fr hf (fun e' => e ?_), (h.set c' r' b hr' hb).2⟩
      subst e'
      exact h.sep c' r' c r b hr' hr hb hm
  sep := h.sep

/-- A set is made. -/
theorem Gs.make (h : Gs B n ec nd mb ks ix dp w) {c : Bool} {r m : Nat} (hr : r < n) (hz : mb c r = none) {l : List Nat} (hf : Fr (fun b => b = nd r) w w') (hm : w.heap.size ≤ m) (hB : B ≤ w.heap.size)
    (hrow : w'.heap[nd r]? = some (.cells (#[ec r, .map (mb false r), .map (mb true r), .int .i64 (ix r), .int .i64 (dp r)].setIfInBounds (offS c) (.map (some m))) 89 (0, 0)))
    (hn : NMap w' m (fun i => ptr (nd i)) n l (fun _ => .bool true)) :
    Gs B n ec nd (fun c' r' => if c' = c ∧ r' = r then some m else mb c' r') (setKs ks c r l) ix dp w' where
  node s hs := by
    by_cases e : s = r
    · subst e
      rw [hrow]
      cases c <;> simp [offS]
    · simp only [e, and_false, if_false]
      exact hf.heap (h.node s hs) (fun e' => e (h.inj _ _ hs hr e'))
  ge := h.ge
  inj := h.inj
  nil c' r' hr' hb := by
    unfold setKs
    by_cases e : c' = c ∧ r' = r
    · rw [if_pos e] at hb; cases hb
    · rw [if_neg e] at hb ⊢; exact h.nil c' r' hr' hb
  set c' r' b hr' hb := by
    unfold setKs
    by_cases e : c' = c ∧ r' = r
    · rw [if_pos e] at hb ⊢
      cases hb
      exact ⟨hn, by omega⟩
    · rw [if_neg e] at hb ⊢
      exact ⟨(h.set c' r' b hr' hb).1.fr hf (h.setNe hr' hr hb), (h.set c' r' b hr' hb).2⟩
  sep c1 r1 c2 r2 b h1 h2 hb1 hb2 := by
    by_cases e1 : c1 = c ∧ r1 = r <;> by_cases e2 : c2 = c ∧ r2 = r
    · exact ⟨e1.1.trans e2.1.symm, e1.2.trans e2.2.symm⟩
    · rw [if_pos e1] at hb1; rw [if_neg e2] at hb2
      cases hb1
      have := (h.set c2 r2 m h2 hb2).1.lt
      omega
    · rw [if_neg e1] at hb1; rw [if_pos e2] at hb2
      cases hb2
      have := (h.set c1 r1 m h1 hb1).1.lt
      omega
    · rw [if_neg e1] at hb1; rw [if_neg e2] at hb2
      exact h.sep c1 r1 c2 r2 b h1 h2 hb1 hb2

set_option maxRecDepth 100000 in
/-- 'node.set.add(k)' -/
theorem Gs.add (h : Gs B n ec nd mb ks ix dp w) (c : Bool) {r k : Nat} (hr : r < n) (hk : k < n) (hB : B ≤ w.heap.size) :
    Calls Tryz.prog 63 #[.pointer (some ⟨nd r, offS c, none⟩), ptr (nd k)] w (fun e w' => e = .returned (.tuple #[]) ∧ ∃ mb', Gs B n ec nd mb' (setKs ks c r (putKs (ks c r) k)) ix dp w' ∧ Fr (AtS nd mb c r) w w' ∧
      (∀ c' r' b, mb c' r' = some b → mb' c' r' = some b) ∧ ∀ c' r', ¬ (c' = c ∧ r' = r) → mb' c' r' = mb c' r') := by
  cases hm : mb c r with
  | some m =>
    have hnm := (h.set c r m hr hm).1
    have hcell : w.cell? ⟨nd r, offS c, none⟩ = some (.map (some m)) := by
      rw [cell_row (h.node r hr)]
      cases c <;> simp [offS, hm]
    refine (add_some w (nd r) (offS c) m hcell hnm h.keyOk hk).mono ?_
    rintro e w' ⟨rfl, h1, h2, h3⟩
    have h1' := h1.congr (val' := fun _ => .bool true) (fun _ _ => rfl) (fun j _ => by simp [putVal]) h1.2.1
    exact ⟨rfl, mb, h.turn hr hm h2 h1', h2.mono (fun b _ e => .inr (by rw [e]; exact hm)), fun _ _ _ h => h, fun _ _ _ => rfl⟩
  | none =>
    have hz := h.nil c r hr hm
    have hf0 : Fr (fun b => b = nd r) w ((w.alloc (.map #[] 0)).setCell ⟨nd r, offS c, none⟩ (.map (some w.heap.size))) := (Fr.mono ((Gr.refl w).alloc _) (fun _ _ h => h.elim)).trans (fr_set _ _ _ _)
    have hK : KeyOk Tryz.prog ((w.alloc (.map #[] 0)).setCell ⟨nd r, offS c, none⟩ (.map (some w.heap.size))) 83 (fun i => ptr (nd i)) n :=
      keyOk_ptr ptr83 (fun s hs => by
        by_cases e : s = r
        · subst e; exact ⟨_, _, heap_setCell_same _ _ _ _ _ _ (Fr.heap ((Gr.refl w).alloc _) (h.node s hs) id)⟩
        · exact ⟨_, _, hf0.heap (h.node s hs) (fun e' => e (h.inj _ _ hs hr e'))⟩) h.inj
    refine (add_none w (nd r) (offS c) (h.node r hr) (by cases c <;> simp [offS, hm]) hk hK).mono ?_
    rintro e w' ⟨rfl, h1, h2, h3⟩
    refine ⟨rfl, _, by simpa [hz, putKs] using h.make hr hm h3 (Nat.le_refl _) hB h2 h1, h3.mono (fun b _ e => .inl e), fun c' r' b hb => ?_, fun c' r' hn => by rw [if_neg hn]⟩
    by_cases e : c' = c ∧ r' = r
    · obtain ⟨rfl, rfl⟩ := e; rw [hm] at hb; cases hb
    · rw [if_neg e]; exact hb

theorem Gs.iterNe (h : Gs B n ec nd mb ks ix dp w) {it b m : Nat} {enc : Nat → Value} {l rem : List Nat} {val : Nat → Value} (hi : NIter w it b enc m l val rem) {c : Bool} {r : Nat} (hr : r < n) : ¬ AtS nd mb c r it := by
  obtain ⟨_, _, _, _, es, k, s, _, h3, _⟩ := hi
  rintro (e | e)
  · have := h.node r hr
    rw [← e, h3] at this
    cases this
  · obtain ⟨⟨_, _, es', k', h4, _⟩, _⟩ := h.set c r it hr e
    rw [h3] at h4
    cases h4
theorem Gs.lowNe (h : Gs B n ec nd mb ks ix dp w) {b : Nat} (hb : b < B) {c : Bool} {r : Nat} (hr : r < n) : ¬ AtS nd mb c r b := by
  rintro (e | e)
  · have := h.ge r hr; omega
  · have := (h.set c r b hr e).2; omega
theorem Gs.atGe (h : Gs B n ec nd mb ks ix dp w) {b : Nat} {c : Bool} {r : Nat} (hr : r < n) (ha : AtS nd mb c r b) : B ≤ b := by
  rcases ha with e | e
  · rw [e]; exact h.ge r hr
  · exact (h.set c r b hr e).2
theorem mem_setKs_put (ks : Bool → Nat → List Nat) (c : Bool) (r k : Nat) (c' : Bool) (x y : Nat) : y ∈ setKs ks c r (putKs (ks c r) k) c' x ↔ y ∈ ks c' x ∨ (c' = c ∧ x = r ∧ y = k) := by
  unfold setKs
  by_cases e : c' = c ∧ x = r
  · obtain ⟨rfl, rfl⟩ := e
    rw [if_pos ⟨rfl, rfl⟩]
    unfold putKs
    split
    · rename_i h
      constructor
      · exact .inl
      · rintro (h' | ⟨_, _, rfl⟩)
        · exact h'
        · exact h
    · simp
  · rw [if_neg e]
    constructor
    · exact .inl
    · rintro (h | ⟨h1, h2, _⟩)
      · exact h
      · exact absurd ⟨h1, h2⟩ e
theorem mem_setKs_del {ks : Bool → Nat → List Nat} (c : Bool) (r k : Nat) (hd : (ks c r).Nodup) (c' : Bool) (x y : Nat) : y ∈ setKs ks c r ((ks c r).erase k) c' x ↔ y ∈ ks c' x ∧ ¬ (c' = c ∧ x = r ∧ y = k) := by
  unfold setKs
  by_cases e : c' = c ∧ x = r
  · obtain ⟨rfl, rfl⟩ := e
    rw [if_pos ⟨rfl, rfl⟩, List.Nodup.mem_erase_iff hd]
    constructor
    · rintro ⟨h1, h2⟩; exact ⟨h2, fun h => h1 h.2.2⟩
    · rintro ⟨h1, h2⟩; exact ⟨fun h => h2 ⟨rfl, rfl, h⟩, h1⟩
  · rw [if_neg e]
    exact ⟨fun h => ⟨h, fun h' => e ⟨h'.1, h'.2.1⟩⟩, fun h => h.1⟩
end
end Go.Proofs.YtelfaljidgfphaaGreat
