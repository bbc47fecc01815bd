/-
  The functions' nodes sorted by their costs.
-/
import Derived.Test.YtelfaljidgfphaaGreatJ1
import Derived.Test.YtelfaljidgfphaaGreatLays
namespace Go.Proofs.YtelfaljidgfphaaGreat
open Go.RowKit Go.Sort

theorem fr_sortWorld {α : Type} [Inhabited α] (enc : α → Value) (w : World) (blk off m : Nat) (dk : Array α) (os : Array Obj) : Fr (fun b => b = blk) w (sortWorld enc w blk off m dk os) := by
  refine ⟨rfl, rfl, rfl, by simp [sortWorld, grow, putRow, mapBlock, Go.Sort.ahead], fun k hk hne => ?_⟩
  unfold sortWorld
  rw [heap_grow_old _ _ (by simpa [putRow, mapBlock, Go.Sort.ahead] using hk)]
  simp only [putRow, mapBlock, Go.Sort.ahead, Array.getElem?_modify]
  rw [if_neg (fun e => hne e.symm)]

theorem heap_sortWorld {α : Type} [Inhabited α] (enc : α → Value) (w : World) (blk off m : Nat) (dk : Array α) (os : Array Obj) {c : Array Value} {e : Nat} {f : Nat × Nat} (h : w.heap[blk]? = some (.cells c e f)) :
    (sortWorld enc w blk off m dk os).heap[blk]? = some (.cells (putCells enc off dk c) e f) := by
  unfold sortWorld
  rw [heap_grow_old _ _ (by simpa [putRow, mapBlock, Go.Sort.ahead] using heap_lt h)]
  simp [putRow, mapBlock, Go.Sort.ahead, Array.getElem?_modify, h, onCells]

def nodeCost (ks : Bool → Nat → List Nat) (r : Nat) : Int := wrap64 (((ks false r).length : Int) * ((ks true r).length : Int))

set_option maxRecDepth 100000 in
set_option maxHeartbeats 1000000 in
/-- 'node.cost()' -/
theorem cost_any {B n : Nat} {ec : Nat → Value} {nd : Nat → Nat} {mb : Bool → Nat → Option Nat} {ks : Bool → Nat → List Nat} {ix dp : Nat → Int} {w : World} (h : Gs B n ec nd mb ks ix dp w) {r : Nat} (hr : r < n) :
    Calls Tryz.prog 67 #[.pointer (some ⟨nd r, 0, none⟩)] w (fun e w' => e = .returned (.int .i64 (nodeCost ks r)) ∧ ∃ q, w' = w.drewN q) := by
  have hn := h.node r hr
  have c1 : w.cell? ⟨nd r, 1, none⟩ = some (.map (mb false r)) := by rw [cell_row hn]; rfl
  have c2 : w.cell? ⟨nd r, 2, none⟩ = some (.map (mb true r)) := by rw [cell_row hn]; rfl
  have hlen : ∀ c q, (Builtin.len_ #[87] 3 #[.map (mb c r)]).run Tryz.prog (w.drewN q) = .ok (goInt (ks c r).length) (w.drewN q) := by
    intro c q
    cases hm : mb c r with
    | none => rw [h.nil c r hr hm]; rfl
    | some b => exact ((h.set c r b hr hm).1.fr ((Gr.refl w).drewN q) id).len Tryz.underlying87 _ _ rfl
  go_enter Tryz.func67, Tryz.ntmps67
  go_wp2
  have l1 := hlen false
  have l2 := hlen true
  go_quiet (fail)
  go_wp2
  go_ret
  exact ⟨rfl, _, rfl⟩

theorem compare_int (x y : Int) (W : World) : Calls Tryz.prog 66 #[.int .i64 x, .int .i64 y] W fun e w' => e = .returned (.int .i64 (Lib.compareInt x y)) ∧ w' = W := by
  have h := Any.cmp_Compare_int Tryz.cmpInt x y W
  exact h

set_option maxRecDepth 100000 in
set_option maxHeartbeats 1000000 in
/-- 'cmp.Compare(a.cost(), b.cost())' -/
theorem cmp_any {B n : Nat} {ec : Nat → Value} {nd : Nat → Nat} {mb : Bool → Nat → Option Nat} {ks : Bool → Nat → List Nat} {ix dp : Nat → Int} {w : World} (h : Gs B n ec nd mb ks ix dp w) {r s : Nat} (hr : r < n) (hs : s < n) :
    Calls Tryz.prog 65 #[.pointer (some ⟨nd r, 0, none⟩), .pointer (some ⟨nd s, 0, none⟩)] w (fun e w' => e = .returned (.int .i64 (Lib.compareInt (nodeCost ks r) (nodeCost ks s))) ∧ ∃ q, w' = w.drewN q) := by
  have hcmp := compare_int
  go_enter Tryz.func65, Tryz.ntmps65
  go_wp2_with (first
    | (go_at_call 67; refine (cost_any h1 hs).mono ?_; rintro e w2 ⟨rfl, q2, rfl⟩)
    | (go_at_call 67; refine (cost_any h hr).mono ?_; rintro e w1 ⟨rfl, q1, rfl⟩; have h1 := h.gr ((Gr.refl w).drewN q1))
    | (go_at_call 66; refine (hcmp _ _ _).mono ?_; rintro e w3 ⟨rfl, rfl⟩))
  go_ret
  exact ⟨rfl, _, rfl⟩

theorem swo_cost {α : Type} (f : α → Int) : SWO (ltOf fun x y => Lib.compareInt (f x) (f y)) := by
  have h : ∀ x y, ltOf (fun x y => Lib.compareInt (f x) (f y)) x y = decide (f x < f y) := fun x y => by
    unfold ltOf Lib.compareInt
    by_cases h1 : f x < f y
    · simp [h1]
    · by_cases h2 : f y < f x <;> simp [h1, h2]
  exact {
    irrefl := fun x => by rw [h]; simp
    trans := fun x y z h1 h2 => by rw [h] at *; simp at *; omega
    ntrans := fun x y z h1 h2 => by rw [h] at *; simp at *; omega }

theorem sortFunc_none (p : Option Addr) (cap : Nat) (fv : Value) (w : World) : Calls Tryz.prog 64 #[.slice p 0 cap, fv] w fun e w' => e = .returned (.tuple #[]) ∧ w' = w := by
  have h := AnyF.slices_SortFunc_none (P := Tryz.prog) (ρ := Tryz.sortNodes_ren) { Tryz.sortNodes with } p cap fv w
  exact h

theorem sortFunc_some {α : Type} [Inhabited α] (enc : α → Value) (h1 : OneCell enc) (cf : α → α → Int) (hO : SWO (ltOf cf)) (blk off cap : Nat) (d : Array α) (w : World) (hcmp : CmpReads Tryz.prog 65 #[] enc cf blk off d.size w) (hH : Holds enc w blk off d) (hblk : blk < w.heap.size) (hsz : d.size < 4611686018427387904) :
    Calls Tryz.prog 64 #[.slice (some ⟨blk, off, none⟩) d.size cap, .func (.func 65) #[] #[]] w fun e w' => e = .returned (.tuple #[]) ∧ ∃ d' n os, PermIn 0 d.size d d' ∧ SortedIn (ltOf cf) 0 d.size d' ∧ w' = sortWorld enc w blk off n d' os := by
  have eg : ∀ args w, (callFunc 65 args).run Tryz.prog w = .ok (.enter 65 args) w := enters_of Tryz.func65 (by kernel_rfl) rfl
  have h := Any.slices_SortFunc Tryz.sortNodes enc h1 cf hO 65 #[] blk off cap d w eg hcmp.lays hH hblk hsz
  exact h

theorem getElem!_toArray {α : Type} [Inhabited α] (l : List α) (j : Nat) (h : j < l.length) : l.toArray[j]! = l[j] := by
  rw [getElem!_pos _ _ (by simpa using h)]; simp

/-- 'slices.SortFunc(funcG, ..)': some permutation. -/
theorem sort_nodes {B n : Nat} {ec : Nat → Value} {nd : Nat → Nat} {mb : Bool → Nat → Option Nat} {ks : Bool → Nat → List Nat} {ix dp : Nat → Int} {w : World} (h : Gs B n ec nd mb ks ix dp w) {ok : Nat → Prop} {A : Option Addr} {c : Nat} {fs : List Nat}
    (hfs : ∀ x ∈ fs, x < n) (hown : Own w ok 83 1 (.slice A fs.length c) fs.length (fs.map fun r => ptr (nd r))) (hlen : fs.length < 4611686018427387904) :
    Calls Tryz.prog 64 #[.slice A fs.length c, .func (.func 65) #[] #[]] w (fun e w' => e = .returned (.tuple #[]) ∧ ∃ fs', List.Perm fs' fs ∧ Own w' ok 83 1 (.slice A fs.length c) fs.length (fs'.map fun r => ptr (nd r)) ∧ Fr (fun b => (Value.slice A fs.length c).ownBlock = some b) w w') := by
  by_cases h0 : fs.length = 0
  · have hnil : fs = [] := List.eq_nil_of_length_eq_zero h0
    subst hnil
    refine (sortFunc_none A c _ w).mono ?_
    rintro e w' ⟨rfl, rfl⟩
    exact ⟨rfl, [], List.Perm.nil, hown, Fr.refl _ _⟩
  · have hl := hown.1
    obtain ⟨g, o, cap, cur, he, hok, hg, hcap, hsz, hcell⟩ := hown.at_ (by omega)
    simp only [Value.slice.injEq] at he
    obtain ⟨rfl, -, rfl⟩ := he
    have hn0 : 0 < n := Nat.lt_of_le_of_lt (Nat.zero_le _) (hfs _ (List.getElem_mem (n := 0) (by omega)))
    have : Inhabited (Fin n) := ⟨⟨0, hn0⟩⟩
    have hgn : ∀ r, r < n → nd r ≠ g := fun r hr e => ne_cells (h.node r hr) (e ▸ hg) (by decide) rfl
    have hgs : ∀ c r b, r < n → mb c r = some b → b ≠ g := fun c r b hr hb e => (h.set c r b hr hb).1.ne hg e
    have hdl : ((fs.pmap (fun x hx => (⟨x, hx⟩ : Fin n)) hfs).toArray).size = fs.length := by simp
    have hdj : ∀ j (hj : j < fs.length), ((fs.pmap (fun x hx => (⟨x, hx⟩ : Fin n)) hfs).toArray)[j]! = ⟨fs[j], hfs _ (List.getElem_mem hj)⟩ := fun j hj => by
      rw [getElem!_toArray _ _ (by simpa using hj)]; simp
    have hH : Holds (fun x : Fin n => ptr (nd x.val)) w g o (fs.pmap (fun x hx => (⟨x, hx⟩ : Fin n)) hfs).toArray := fun j hj => by
      rw [hdl] at hj
      refine ⟨?_, frozen_row hg _⟩
      rw [hdj j hj]
      exact hcell j _ (by simp [hj])
    have hcmp : CmpReads Tryz.prog 65 #[] (fun x : Fin n => ptr (nd x.val)) (fun x y => Lib.compareInt (nodeCost ks x.val) (nodeCost ks y.val)) g o ((fs.pmap (fun x hx => (⟨x, hx⟩ : Fin n)) hfs).toArray).size w := by
      intro m os dk _ x y
      have h' := h.fr (fr_sortWorld (fun x : Fin n => ptr (nd x.val)) w g o m dk os) (fun r hr e => hgn r hr e) (fun c r b hr hb e => hgs c r b hr hb e)
      exact cmp_any h' x.isLt y.isLt
    have hcon := sortFunc_some (fun x : Fin n => ptr (nd x.val)) (fun _ => rfl) _ (swo_cost fun x : Fin n => nodeCost ks x.val) g o c _ w hcmp hH (heap_lt hg) (by rw [hdl]; exact hlen)
    rw [hdl] at hcon
    refine hcon.mono ?_
    rintro e w' ⟨rfl, d', m, os, ⟨hp1, -, hp3⟩, -, rfl⟩
    rw [hdl] at hp1
    have hp : List.Perm d'.toList (fs.pmap (fun x hx => (⟨x, hx⟩ : Fin n)) hfs) := by
      have e1 : d'.extract 0 fs.length = d' := by rw [← hp1]; simp
      have e2 : ((fs.pmap (fun x hx => (⟨x, hx⟩ : Fin n)) hfs).toArray).extract 0 fs.length = (fs.pmap (fun x hx => (⟨x, hx⟩ : Fin n)) hfs).toArray := by
        have := hdl
        generalize (fs.pmap (fun x hx => (⟨x, hx⟩ : Fin n)) hfs).toArray = a at this ⊢
        rw [← this]; simp
      rw [e1, e2] at hp3
      simpa using hp3
    have hpf : List.Perm (d'.toList.map (·.val)) fs := by
      have := hp.map (·.val)
      have e3 : (fs.pmap (fun x hx => (⟨x, hx⟩ : Fin n)) hfs).map (·.val) = fs := by
        rw [List.map_pmap]; simp
      rwa [e3] at this
    refine ⟨rfl, d'.toList.map (·.val), hpf, ?_, (fr_sortWorld _ w g o m d' os).mono (fun b _ e => by rw [e]; rfl)⟩
    refine ⟨by simpa using hp1, .inr ⟨g, o, c, _, rfl, hok, heap_sortWorld _ w g o m d' os hg, hcap, ?_, by simpa [putCells] using hsz, ?_⟩⟩
    · obtain ⟨_, hv | ⟨g', o', cap', cur', he', _, _, _, hml, _⟩⟩ := hown
      · exact absurd hv.1 (by simp)
      · simp only [Value.slice.injEq] at he'
        rw [he'.2.2]; exact hml
    · apply List.ext_getElem?
      intro i
      rw [List.getElem?_take, List.getElem?_drop]
      by_cases hi : i < fs.length
      · rw [if_pos (by omega)]
        have hi2 : o + i < cur.size := by omega
        have hi3 : i < d'.size := by omega
        simp [putCells, hi2, hi3, getElem!_pos]
      · rw [if_neg (by omega), List.getElem?_eq_none (by simp; omega)]
end Go.Proofs.YtelfaljidgfphaaGreat
