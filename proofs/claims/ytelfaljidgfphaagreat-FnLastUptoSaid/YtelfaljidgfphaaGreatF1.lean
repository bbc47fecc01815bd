/-
  'findPath' sorts the dependencies: some permutation of them.
-/
import Derived.Test.YtelfaljidgfphaaGreatK2
import Derived.Test.YtelfaljidgfphaaGreatH8
namespace Go.Proofs.YtelfaljidgfphaaGreat
open Go.RowKit Go.Sort

theorem meth_ordI (p : List It) (r : Nat) (b : Nat) (w : World) : (method 318 (tyI p r) (.pointer (some ⟨b, 0, none⟩)) "initializations/pub/initorder.order").run Tryz.prog w = .ok (158, .pointer (some ⟨b, 0, none⟩)) w := by
  rcases tyI_cases p r with e | e | e <;> rw [e]
  · exact meth_ord111 b w
  · exact meth_ord116 b w
  · exact meth_ord102 b w

set_option maxHeartbeats 1000000 in
set_option maxRecDepth 100000 in
/-- 'deps[i].order() < deps[j].order()' -/
theorem less81 (W : World) (blk o n c Bs i j tx ty ox oy : Nat) (px py : Int) (hi : i < n) (hj : j < n) (hs : W.cell? ⟨Bs, 0, none⟩ = some (.slice (some ⟨blk, o, none⟩) n c))
    (ci : W.cell? ⟨blk, o + i, none⟩ = some (.iface tx (.pointer (some ⟨ox, 0, none⟩)))) (cj : W.cell? ⟨blk, o + j, none⟩ = some (.iface ty (.pointer (some ⟨oy, 0, none⟩))))
    (m1 : ∀ (b : Nat) (w : World), (method 318 tx (.pointer (some ⟨b, 0, none⟩)) "initializations/pub/initorder.order").run Tryz.prog w = .ok (158, .pointer (some ⟨b, 0, none⟩)) w)
    (m2 : ∀ (b : Nat) (w : World), (method 318 ty (.pointer (some ⟨b, 0, none⟩)) "initializations/pub/initorder.order").run Tryz.prog w = .ok (158, .pointer (some ⟨b, 0, none⟩)) w)
    (ux : W.cell? ⟨ox, 1, none⟩ = some (.int .u32 px)) (uy : W.cell? ⟨oy, 1, none⟩ = some (.int .u32 py)) :
    Calls Tryz.prog 81 #[.int .i64 i, .int .i64 j, .pointer (some ⟨Bs, 0, none⟩)] W fun e w' => e = .returned (.bool (decide (px < py))) ∧ ∃ q, w' = W.drewN q := by
  have hi' : (i : Int) < (n : Int) := by omega
  have hj' : (j : Int) < (n : Int) := by omega
  go_enter Tryz.func81, Tryz.ntmps81
  go_wp2
  go_quiet (first | (go_at_call 158; exact (order_any _ ox px (by simpa using ux)).mono (fun _ _ h => ⟨h.1, _, h.2⟩)) | (go_at_call 158; exact (order_any _ oy py (by simpa using uy)).mono (fun _ _ h => ⟨h.1, _, h.2⟩)))
  go_wp2
  go_ret
  exact ⟨rfl, _, rfl⟩

noncomputable def si73 : TypeInfo := (Tryz.prog.info? 73).get (by kernel_rfl)
noncomputable def si108 : TypeInfo := (Tryz.prog.info? 108).get (by kernel_rfl)
theorem swapK (n : Nat) (h2 : 2 ≤ n) : Lib.swapperK n si108 20 = 9 := by
  have a : si108.hasPointers = true := by kernel_rfl
  have b : si108.bytes = 16 := by kernel_rfl
  have c : (n == 0) = false := by simp; omega
  have d : (n == 1) = false := by simp; omega
  simp [Lib.swapperK, a, b, c, d]

theorem swo_num (n : Nat) : SWO (fun x y : Fin n => decide ((x.val : Int) < (y.val : Int))) where
  irrefl x := by simp
  trans x y z h1 h2 := by simp at *; omega
  ntrans x y z h1 h2 := by simp at *; omega

theorem sortSlice_tiny (A : Option Addr) (n c : Nat) (h1 : n ≤ 1) (Bs : Nat) (W : World) : Calls Tryz.prog 80 #[.iface 73 (.slice A n c), .func (.func 81) #[] #[.pointer (some ⟨Bs, 0, none⟩)]] W fun e w' => e = .returned (.tuple #[]) ∧ ∃ os, w' = grow W os := by
  have hK : Lib.swapperK n si108 20 = n + 1 := by
    rcases Nat.eq_zero_or_pos n with h | h
    · subst h; simp [Lib.swapperK]
    · obtain rfl : n = 1 := by omega
      simp [Lib.swapperK]
  have hS := Any.sort_Slice_tiny Tryz.sortSlice 73 108 si73 si108 (by kernel_rfl) (by kernel_rfl) (by kernel_rfl) (by kernel_rfl) 20 (fun _ => by kernel_rfl) A n c h1 (114 + n) (by
    rw [hK]
    rcases Nat.eq_zero_or_pos n with h | h
    · subst h; kernel_rfl
    · obtain rfl : n = 1 := by omega
      kernel_rfl) (.func 81) #[] #[.pointer (some ⟨Bs, 0, none⟩)] W
  exact hS

theorem sortSlice_some {α : Type} [Inhabited α] (enc : α → Value) (h1 : ∀ x, (enc x).oneCell' = true) (lt : α → α → Bool) (hO : SWO lt) (Bs blk off c : Nat) (d : Array α) (h2 : 2 ≤ d.size) (hsz : d.size < 4611686018427387904) (w : World)
    (hless : LessReads Tryz.prog 81 #[.pointer (some ⟨Bs, 0, none⟩)] enc lt blk off d.size w) (hH : Holds enc w blk off d) (hblk : blk < w.heap.size) :
    Calls Tryz.prog 80 #[.iface 73 (.slice (some ⟨blk, off, none⟩) d.size c), .func (.func 81) #[] #[.pointer (some ⟨Bs, 0, none⟩)]] w fun e w' =>
      e = .returned (.tuple #[]) ∧ ∃ d' n os, PermIn 0 d.size d d' ∧ SortedIn lt 0 d.size d' ∧ w' = grow (putRow enc (Sort.ahead w n) blk off d') os := by
  have hS := Any.sort_Slice_sorted Tryz.sortSlice 73 108 si73 si108 (by kernel_rfl) (by kernel_rfl) (by kernel_rfl) (by kernel_rfl) 20 (fun _ => by kernel_rfl) (by kernel_rfl) (fun _ => by kernel_rfl) enc h1 lt hO 81 #[.pointer (some ⟨Bs, 0, none⟩)]
    (enters_of Tryz.func81 (by kernel_rfl) rfl) blk off c d h2 hsz 122 (by rw [swapK _ h2]; kernel_rfl) false
    (fun args W => run_callFunc_extern Tryz.func122 (by kernel_rfl) (by kernel_rfl) (by kernel_rfl) (e := Extern.ReflectliteSwapper.swap false) (by kernel_rfl) args W) w hless hH hblk
  exact hS

/-- 'sort.Slice(deps, ..)': some permutation. -/
theorem sort_objs {p : List It} {g : Gh} {w : World} (hob : ∀ r, r < cnt p → w.heap[g.ob r]? = some (.cells #[.string ⟨#[]⟩, .int .u32 (r : Int), .int .i64 (r : Int)] (tyE p r) (0, 0))) {ok : Nat → Prop} {A : Option Addr} {c : Nat} {ds : List Nat}
    (hds : ∀ x ∈ ds, x < cnt p) (hown : Own w ok 108 1 (.slice A ds.length c) ds.length (ds.map (g.enc p))) {Bs : Nat} (hbox : w.heap[Bs]? = some (.cells #[.slice A ds.length c] 73 (0, 0))) (hlen : ds.length < 4611686018427387904) :
    Calls Tryz.prog 80 #[.iface 73 (.slice A ds.length c), .func (.func 81) #[] #[.pointer (some ⟨Bs, 0, none⟩)]] w (fun e w' => e = .returned (.tuple #[]) ∧ ∃ ds', List.Perm ds' ds ∧ Own w' ok 108 1 (.slice A ds.length c) ds.length (ds'.map (g.enc p)) ∧ Fr (fun b => (Value.slice A ds.length c).ownBlock = some b) w w') := by
  by_cases h0 : ds.length ≤ 1
  · refine (sortSlice_tiny A ds.length c h0 Bs w).mono ?_
    rintro e w' ⟨rfl, os, rfl⟩
    have hg : Gr w (grow w os) := ⟨rfl, rfl, rfl, by simp, fun k hk _ => heap_grow_old _ _ hk⟩
    exact ⟨rfl, ds, List.Perm.refl _, hown.gr hg, hg.mono fun _ _ h => h.elim⟩
  · obtain ⟨gb, o, cap, cur, he, hok, hg, hcap, hsz, hcell⟩ := hown.at_ (by omega)
    simp only [Value.slice.injEq] at he
    obtain ⟨rfl, -, rfl⟩ := he
    have hn0 : 0 < cnt p := Nat.lt_of_le_of_lt (Nat.zero_le _) (hds _ (List.getElem_mem (n := 0) (by omega)))
    have : Inhabited (Fin (cnt p)) := ⟨⟨0, hn0⟩⟩
    have hgn : ∀ r, r < cnt p → g.ob r ≠ gb := fun r hr => ne_cells (hob r hr) hg (by rcases tyE_cases p r with e | e | e <;> rw [e] <;> decide)
    have hbn : Bs ≠ gb := ne_cells hbox hg (by decide)
    have hdl : ((ds.pmap (fun x hx => (⟨x, hx⟩ : Fin (cnt p))) hds).toArray).size = ds.length := by simp
    have hdj : ∀ j (hj : j < ds.length), ((ds.pmap (fun x hx => (⟨x, hx⟩ : Fin (cnt p))) hds).toArray)[j]! = ⟨ds[j], hds _ (List.getElem_mem hj)⟩ := fun j hj => by
      rw [getElem!_toArray _ _ (by simpa using hj)]; simp
    have hH : Holds (fun x : Fin (cnt p) => g.enc p x.val) w gb o (ds.pmap (fun x hx => (⟨x, hx⟩ : Fin (cnt p))) hds).toArray := fun j hj => by
      rw [hdl] at hj
      refine ⟨?_, frozen_row hg _⟩
      rw [hdj j hj]
      exact hcell j _ (by simp [hj])
    have hless : LessReads Tryz.prog 81 #[.pointer (some ⟨Bs, 0, none⟩)] (fun x : Fin (cnt p) => g.enc p x.val) (fun x y : Fin (cnt p) => decide ((x.val : Int) < (y.val : Int))) gb o ((ds.pmap (fun x hx => (⟨x, hx⟩ : Fin (cnt p))) hds).toArray).size w := by
      intro m os dk hs i j hi hj
      have hfr := fr_sortWorld (fun x : Fin (cnt p) => g.enc p x.val) w gb o m dk os
      have hrow := heap_sortWorld (fun x : Fin (cnt p) => g.enc p x.val) w gb o m dk os hg
      rw [hdl] at hs hi hj
      have hc : ∀ t, t < ds.length → (sortWorld (fun x : Fin (cnt p) => g.enc p x.val) w gb o m dk os).cell? ⟨gb, o + t, none⟩ = some (g.enc p (dk[t]!).val) := fun t ht => by
        rw [cell_row hrow]
        have h1 : o + t < cur.size := by omega
        have h2 : t < dk.size := by omega
        simp [putCells, h1, h2, getElem!_pos]
      have hobx : ∀ r, r < cnt p → (sortWorld (fun x : Fin (cnt p) => g.enc p x.val) w gb o m dk os).cell? ⟨g.ob r, 1, none⟩ = some (.int .u32 (r : Int)) := fun r hr => by
        rw [cell_row (hfr.heap (hob r hr) (hgn r hr))]; rfl
      have hbx : (sortWorld (fun x : Fin (cnt p) => g.enc p x.val) w gb o m dk os).cell? ⟨Bs, 0, none⟩ = some (.slice (some ⟨gb, o, none⟩) ds.length c) := by rw [cell_row (hfr.heap hbox hbn)]; rfl
      exact less81 _ gb o ds.length c Bs i j _ _ _ _ _ _ hi hj hbx (hc i hi) (hc j hj) (meth_ordI p _) (meth_ordI p _) (hobx _ (dk[i]!).isLt) (hobx _ (dk[j]!).isLt)
    have hcon := sortSlice_some (fun x : Fin (cnt p) => g.enc p x.val) (fun _ => rfl) _ (swo_num (cnt p)) Bs gb o c _ (by rw [hdl]; omega) (by rw [hdl]; exact hlen) w hless hH (heap_lt hg)
    rw [hdl] at hcon
    refine hcon.mono ?_
    rintro e w' ⟨rfl, d', m, os, ⟨hp1, -, hp3⟩, -, hw'⟩
    have hw2 : w' = sortWorld (fun x : Fin (cnt p) => g.enc p x.val) w gb o m d' os := hw'
    subst hw2
    rw [hdl] at hp1
    have hp : List.Perm d'.toList (ds.pmap (fun x hx => (⟨x, hx⟩ : Fin (cnt p))) hds) := by
      have e1 : d'.extract 0 ds.length = d' := by rw [← hp1]; simp
      have e2 : ((ds.pmap (fun x hx => (⟨x, hx⟩ : Fin (cnt p))) hds).toArray).extract 0 ds.length = (ds.pmap (fun x hx => (⟨x, hx⟩ : Fin (cnt p))) hds).toArray := by
        have := hdl
        generalize (ds.pmap (fun x hx => (⟨x, hx⟩ : Fin (cnt p))) hds).toArray = a at this ⊢
        rw [← this]; simp
      rw [e1, e2] at hp3
      simpa using hp3
    have hpf : List.Perm (d'.toList.map (·.val)) ds := by
      have := hp.map (·.val)
      have e3 : (ds.pmap (fun x hx => (⟨x, hx⟩ : Fin (cnt p))) hds).map (·.val) = ds := by
        rw [List.map_pmap]; simp
      rwa [e3] at this
    refine ⟨rfl, d'.toList.map (·.val), hpf, ?_, (fr_sortWorld _ w gb o m d' os).mono (fun b _ e => by rw [e]; rfl)⟩
    refine ⟨by simpa using hp1, .inr ⟨gb, o, c, _, rfl, hok, heap_sortWorld _ w gb o m d' os hg, hcap, ?_, by simpa [putCells] using hsz, ?_⟩⟩
    · obtain ⟨_, hv | ⟨g', o', cap', cur', he', _, _, _, hml, _⟩⟩ := hown
      · exact absurd hv.1 (by simp)
      · simp only [Value.slice.injEq] at he'
        rw [he'.2.2]; exact hml
    · apply List.ext_getElem?
      intro i
      rw [List.getElem?_take, List.getElem?_drop]
      by_cases hi : i < ds.length
      · rw [if_pos (by omega)]
        have hi2 : o + i < cur.size := by omega
        have hi3 : i < d'.size := by omega
        simp [putCells, hi2, hi3, getElem!_pos]
      · rw [if_neg (by omega), List.getElem?_eq_none (by simp; omega)]
end Go.Proofs.YtelfaljidgfphaaGreat
