/-
  The walk of 'Graph' (package initorder).
-/
import Derived.Test.YtelfaljidgfphaaGreatJ3
import Derived.Shelf.Slices.In.SortNone2
namespace Go.Proofs.YtelfaljidgfphaaGreat
open Go.RowKit Go.Sort

theorem assert_ptr {t u te : Nat} (hu : Tryz.prog.underlying u = some (.pointer te)) (v : Value) (w : World) (hz : (zeroValue u).run Tryz.prog w = .ok (.pointer none) w) :
    (Instr.typeAssert (.iface t v) 108 u true).run Tryz.prog w = .ok (.tuple (if t = u then #[v, .bool true] else #[.pointer none, .bool false])) w := by
  by_cases h : t = u
  · simp [Instr.typeAssert, run_underlying hu, h]
  · simp [Instr.typeAssert, run_underlying hu, h, hz]

theorem zero111 (w : World) : (zeroValue 111).run Tryz.prog w = .ok (.pointer none) w := by kernel_rfl
theorem zero102 (w : World) : (zeroValue 102).run Tryz.prog w = .ok (.pointer none) w := by kernel_rfl
theorem zero116 (w : World) : (zeroValue 116).run Tryz.prog w = .ok (.pointer none) w := by kernel_rfl

set_option maxRecDepth 100000 in
set_option maxHeartbeats 1000000 in
/-- 'number(o)' -/
theorem number_any (p : List It) (w : World) {b r : Nat} (ho : w.heap[b]? = some (.cells #[.string ⟨#[]⟩, .int .u32 (r : Int), .int .i64 (r : Int)] (tyE p r) (0, 0))) :
    Calls Tryz.prog 60 #[.iface (tyI p r) (.pointer (some ⟨b, 0, none⟩))] w (fun e w' => e = .returned (.int .i64 (r : Int)) ∧ w' = w) := by
  have c2 : w.cell? ⟨b, 2, none⟩ = some (.int .i64 (r : Int)) := by rw [cell_row ho]; rfl
  have h1 := fun t v w => assert_ptr (t := t) Tryz.underlying111 v w (zero111 w)
  have h2 := fun t v w => assert_ptr (t := t) Tryz.underlying102 v w (zero102 w)
  have h3 := fun t v w => assert_ptr (t := t) Tryz.underlying116 v w (zero116 w)
  have hc : tyI p r = 111 ∨ tyI p r = 116 ∨ tyI p r = 102 := by unfold tyI; split; simp; split <;> simp
  generalize tyI p r = t at hc
  rcases hc with rfl | rfl | rfl
  · go_enter Tryz.func60, Tryz.ntmps60
    go_wp2
    go_ret
    exact ⟨rfl, rfl⟩
  · go_enter Tryz.func60, Tryz.ntmps60
    go_wp2
    go_ret
    exact ⟨rfl, rfl⟩
  · go_enter Tryz.func60, Tryz.ntmps60
    go_wp2
    go_ret
    exact ⟨rfl, rfl⟩

theorem sortInts_none (p : Option Addr) (cap : Nat) (w : World) : Calls Tryz.prog 61 #[.slice p 0 cap] w fun e w' => e = .returned (.tuple #[]) ∧ w' = w := by
  have h := Any.sort_Ints_none Tryz.sortInts p cap w
  exact h
theorem sortInts_some (blk off cap : Nat) (zs : List Int) (w : World) (hH : Holds (Value.int .i64) w blk off zs.toArray) (hblk : blk < w.heap.size) (hsz : zs.length < 4611686018427387904) :
    Calls Tryz.prog 61 #[.slice (some ⟨blk, off, none⟩) zs.length cap] w fun e w' => e = .returned (.tuple #[]) ∧ ∃ n os, w' = sortWorld (Value.int .i64) w blk off n (zs.mergeSort fun x y => decide (x ≤ y)).toArray os := by
  have h := Any.sort_Ints Tryz.sortInts blk off cap zs w hH hblk hsz
  exact h

/-- 'sort.Ints(l)' -/
theorem sort_ints {w : World} {ok : Nat → Prop} {A : Option Addr} {c : Nat} {l : List Int} (hown : Own w ok 3 1 (.slice A l.length c) l.length (l.map intV)) (hlen : l.length < 4611686018427387904) :
    Calls Tryz.prog 61 #[.slice A l.length c] w (fun e w' => e = .returned (.tuple #[]) ∧ Own w' ok 3 1 (.slice A l.length c) l.length ((l.mergeSort fun x y => decide (x ≤ y)).map intV) ∧ Fr (fun b => (Value.slice A l.length c).ownBlock = some b) w w') := by
  by_cases h0 : l.length = 0
  · have hnil : l = [] := List.eq_nil_of_length_eq_zero h0
    subst hnil
    refine (sortInts_none A c w).mono ?_
    rintro e w' ⟨rfl, rfl⟩
    exact ⟨rfl, by simpa using hown, Fr.refl _ _⟩
  · obtain ⟨g, o, cap, cur, he, hok, hg, hcap, hsz, hcell⟩ := hown.at_ (by omega)
    simp only [Value.slice.injEq] at he
    obtain ⟨rfl, -, rfl⟩ := he
    have hH : Holds (Value.int .i64) w g o l.toArray := fun j hj => by
      simp only [List.size_toArray] at hj
      refine ⟨?_, frozen_row hg _⟩
      rw [getElem!_toArray _ _ hj]
      exact hcell j _ (by simp [hj, intV])
    have hpl : (l.mergeSort fun x y => decide (x ≤ y)).length = l.length := by simp
    refine (sortInts_some g o c l w hH (heap_lt hg) hlen).mono ?_
    rintro e w' ⟨rfl, m, os, rfl⟩
    refine ⟨rfl, ?_, (fr_sortWorld _ w g o m _ os).mono (fun b _ e => by rw [e]; rfl)⟩
    refine ⟨by simp, .inr ⟨g, o, c, _, rfl, hok, heap_sortWorld _ w g o m _ os hg, hcap, ?_, by simpa [putCells] using hsz, ?_⟩⟩
    · obtain ⟨_, hv | ⟨g', o', cap', cur', he', _, _, _, hml, _⟩⟩ := hown
      · exact absurd hv.1 (by simp)
      · simp only [Value.slice.injEq] at he'
        rw [he'.2.2]; exact hml
    · generalize (l.mergeSort fun x y => decide (x ≤ y)) = l' at hpl
      apply List.ext_getElem?
      intro i
      rw [List.getElem?_take, List.getElem?_drop]
      by_cases hi : i < l.length
      · rw [if_pos (by omega)]
        have hi2 : o + i < cur.size := by omega
        simp [putCells, hi2, hpl, hi, intV]
      · rw [if_neg (by omega), List.getElem?_eq_none (by simp; omega)]

/-- The sorted list of a set of numbers. -/
theorem sorted_list {l : List Nat} (hd : l.Nodup) {n : Nat} (hm : ∀ x ∈ l, x < n) : (ints l).mergeSort (fun x y => decide (x ≤ y)) = ints ((List.range n).filter fun x => decide (x ∈ l)) := by
  refine List.Perm.eq_of_pairwise (le := fun x y : Int => x ≤ y) (fun a b _ _ h1 h2 => by omega) ?_ ?_ ?_
  · have := List.pairwise_mergeSort (le := fun x y : Int => decide (x ≤ y)) (fun a b c h1 h2 => by simp at *; omega) (fun a b => by simp; omega) (ints l)
    exact this.imp (fun h => by simpa using h)
  · unfold ints
    rw [List.pairwise_map]
    refine List.Pairwise.imp (R := fun a b : Nat => a < b) (fun h => by omega) ?_
    exact List.Pairwise.filter _ List.pairwise_lt_range
  · refine (List.mergeSort_perm _ _).trans ?_
    unfold ints
    refine List.Perm.map _ ?_
    rw [List.perm_ext_iff_of_nodup hd (List.nodup_range.filter _)]
    intro x
    simp
    exact fun h => hm x h

theorem OwnLists.set {w : World} {B g o n c : Nat} {l : List (List Int)} {x : List Int} {u : Value} (h : OwnLists w B (.slice (some ⟨g, o, none⟩) n c) l) (hu : Ints w (fun b => b ≠ g) u x) {r : Nat} (hr : r < l.length) :
    OwnLists (w.setCell ⟨g, o + r, none⟩ u) B (.slice (some ⟨g, o, none⟩) n c) (l.set r x) := by
  obtain ⟨vs, h1, h2, h3⟩ := h
  obtain ⟨b', o', c', he, _, _, _, hc⟩ := h2.arr.at_ (by omega)
  have hnl : n = l.length := by simp only [Value.slice.injEq] at he; exact he.2.1
  subst hnl
  refine ⟨vs.set r u, by simpa using h1, by simpa using h2.set rfl (j := r) (by omega) u, fun i y z hy hz => ?_⟩
  have hf := fr_set w g (o + r) u
  rw [List.getElem?_set] at hy hz
  by_cases e : r = i
  · subst e
    rw [if_pos rfl, if_pos hr] at hy
    rw [if_pos rfl, if_pos (by omega)] at hz
    cases hy; cases hz
    exact (hu.fr hf (fun b hb => hb)).mono (fun b _ hb e => hb (by simpa [Value.ownBlock] using e.symm))
  · rw [if_neg e] at hy hz
    exact (h3 i y z hy hz).fr hf (fun b hb e => hb (by rw [e]; rfl))
theorem OwnLists.nils (w : World) (n : Nat) (hn : n ≤ maxLen) : OwnLists (w.alloc (.cells (Array.replicate n (Value.slice none 0 0)) 29)) w.heap.size (.slice (some ⟨w.heap.size, 0, none⟩) n n) (List.replicate n []) := by
  refine ⟨List.replicate n (.slice none 0 0), by simp, ?_, fun i y z hy hz => ?_⟩
  · have := Own.made (ok := fun b => w.heap.size ≤ b) (e := 29) (sz := 1) w (Array.replicate n (Value.slice none 0 0)) n n (Nat.le_refl _) (Nat.le_refl _) hn (by simp)
    simpa using this
  · rw [List.getElem?_replicate] at hy hz
    split at hy
    · cases hy
      rw [if_pos (by assumption)] at hz
      cases hz
      exact Arr.nil _ _ _
    · cases hy
theorem make_lists (u : World) (N : Nat) (hN : N ≤ 1099511627776) : (Instr.makeSlice 32 (.int .i64 (N : Int)) (.int .i64 (N : Int))).run Tryz.prog u =
    .ok (.slice (some ⟨u.heap.size, 0, none⟩) N N) (u.alloc (.cells (Array.replicate N (Value.slice none 0 0)) 29)) := by
  obtain ⟨i0, hi, hz0, hz1, hz2⟩ := info_parts info29
  have h := run_make (P := Tryz.prog) u 32 29 i0 (.slice none 0 0) Tryz.underlying32 hi hz0 .i64 .i64 (N : Int) (N : Int) (by omega) (Int.le_refl _) (by rw [hz2]; omega) (by omega)
  rw [h, hz1]
  simp only [Int.toNat_natCast, Nat.mul_one, Value.cells, madeCells_one]
end Go.Proofs.YtelfaljidgfphaaGreat
