/-
  The walks of 'InitOrder' (package initorder), of package impl's Order and of package laws' order.
-/
import Derived.Test.YtelfaljidgfphaaGreatF4
namespace Go.Proofs.YtelfaljidgfphaaGreat
open Go.RowKit

/-- Declarations of which an order is asked. -/
structure Ok (p : List It) : Prop where
  len : p.length ≤ 2097152
  kinds : KOk p
  refs : ROk p
  wt : ∀ k, k < p.length → (it p k).refs.length ≤ 1099511627776
  const : ∀ r, r < cnt p → kindAt p r = 4 → ¬ Rch p fAll (own p r) r
  acy : Acy p

/-- l is what is told of p's order. -/
def Em (p : List It) (l : List (List Nat)) : Prop := ∃ L, Gdy (Vn p) (Nn p) L ∧ FullG (Vn p) L ∧ l = emit p L

def ORel1 (p : List It) (eks : List Nat) (w2 : World) (v i : Value) (wr : World) : Prop :=
  ∃ t : Nat, t ≤ eks.length ∧ i = .int .i64 (t : Int) ∧ OwnLists wr w2.heap.size v (lists ((eks.take t).map (objs p))) ∧ Gr w2 wr
def ORel2 (p : List It) (k : Nat) (w3 : World) (v i : Value) (wr : World) : Prop :=
  ∃ j : Nat, j ≤ (it p k).n ∧ i = .int .i64 (j : Int) ∧ Own wr (fun b => w3.heap.size ≤ b) 3 1 v (ints ((objs p k).take j)).length ((ints ((objs p k).take j)).map intV) ∧ Gr w3 wr
def ORel3 (w4 : World) (v i : Value) (wr : World) : Prop := v = .slice none 0 0 ∧ i = .int .i64 0 ∧ wr = w4

/-- What 'InitOrder' returns. -/
def POrd (w : World) (p : List It) (e : Ending) (w' : World) : Prop :=
  ∃ v l, e = .returned (.tuple #[v, .slice none 0 0]) ∧ Em p l ∧ Lists w' (fun _ => True) v (lists l) ∧ Gr w w'

set_option maxHeartbeats 4000000 in
set_option maxRecDepth 100000 in
theorem InitOrder_any (w : World) (ok : Nat → Prop) (A : Option Addr) (c : Nat) (p : List It) (hp : Nds w ok (.slice A (cnt p) c) (nodesOf p (cnt p))) (hO : Ok p) :
    Calls Tryz.prog 57 #[.slice A (cnt p) c] w (POrd w p) := by
  have hk := hO.kinds
  have hlen := hO.len
  have hcnt := cnt_le hk
  have hcnt : cnt p ≤ 209715200 := by omega
  go_enter Tryz.func57, Tryz.ntmps57
  go_wp2_with (first
    | (go_at_call 62; refine (initOrder_any w1 _ L om cb ib p g ks hB hks hcnt hk hO.refs hO.const hO.acy zcb zib).mono ?_; rintro e w2 ⟨rfl, L', eks, v, hG, hFl, hem, hnd, hkl, hib2, hini, hf2⟩; have hcb2 := hf2.heap zcb (ne_cells zcb zib (by decide)); have k1 : w2.cell? ⟨cb, 1, none⟩ = some (.pointer (some ⟨ib, 0, none⟩)) := (by rw [cell_row hcb2]; rfl); have k2 : w2.cell? ⟨ib, 0, none⟩ = some v := (by rw [cell_row hib2]; rfl); obtain ⟨ads, had1, had2, had3⟩ := hini; obtain ⟨A2, c2, rfl⟩ := had2.val)
    | (go_at_call 58; refine (build_any w ok A c p hp hk hO.refs hlen hO.wt).mono ?_; rintro e w1 ⟨cb, ib, om, L, g, ks, rfl, hcb, hib, hom, hL, zcb, zib, hB, hks, hg1⟩))
  have hg2 : Gr w w2 := hg1.step hf2 (fun b hb => by omega)
  have hobj : ∀ d, d < cnt p → w2.heap[g.ob d]? = some (.cells #[.string ⟨#[]⟩, .int .u32 (d : Int), .int .i64 (d : Int)] (tyE p d) (0, 0)) := fun d hd => (hB.frCell zib rfl hf2).obj d hd
  have hel : eks.length ≤ 209715200 := by have := nodup_length_le hnd hkl; omega
  have Hem := Lib.hid hem
  clear hem hB hks zcb zib hf2 hib2
  go_loopw [2, 31] (ORel1 p eks w2) (fun _ i _ => eks.length - (intOf i).toNat)
  case atStart => exact ⟨0, by omega, rfl, by simpa [lists] using OwnLists.nil w2 w2.heap.size, Gr.refl w2⟩
  case round =>
    obtain ⟨t, htl, rfl, hown, hgr⟩ := hrel
    by_cases hlt : t < eks.length
    · obtain ⟨k, hkt⟩ := get_lt hlt
      have hkp := hkl k (List.mem_of_getElem? hkt)
      obtain ⟨a, hat⟩ := get_lt (l := ads) (k := t) (by omega)
      obtain ⟨hage, sl, hrow, hlhs⟩ := had3 t a k hat hkt
      obtain ⟨g1, o1, cap1, cur1, he1, -, -, -, -, hcell1⟩ := (had2.gr hgr).at_ (by omega)
      simp only [Value.slice.injEq] at he1
      obtain ⟨rfl, -, rfl⟩ := he1
      have y0 := hcell1 t (ptr a) (by simp [hat])
      simp only [ptr] at y0
      have hn1 := n_pos hk (it_mem hkp)
      have hrow1 := Fr.heap hgr hrow id
      have y1 : wr.cell? ⟨a, 0, none⟩ = some sl := by rw [cell_row hrow1]; rfl
      obtain ⟨g2, o2, cap2, cur2, rfl, -, -, -, -, -⟩ := (hlhs.gr hgr).at_ (by omega)
      have hoc : (objs p k).length = (it p k).n := objs_length p k
      clear hcell1
      go_wp2
      go_loopw [8, 40] (ORel2 p k wr) (fun _ i _ => (it p k).n - (intOf i).toNat)
      case atStart => exact ⟨0, by omega, rfl, by simpa [ints] using Own.nil _ _ _ _, Gr.refl wr⟩
      case round =>
        rename World => wb
        obtain ⟨j, hjn, rfl, hol, hgb⟩ := hrel
        have hjl : (ints ((objs p k).take j)).length = j := by rw [ints_length, List.length_take]; omega
        by_cases hjt : j < (it p k).n
        · obtain ⟨r, hr⟩ := get_lt (l := objs p k) (k := j) (by omega)
          have hrn : r < cnt p := ((mem_objs hkp).1 (List.mem_of_getElem? hr)).1
          have hgrb := hgr.trans hgb
          obtain ⟨g3, o3, cap3, cur3, he3, -, -, -, -, hcell3⟩ := (hlhs.gr hgrb).at_ (by omega)
          simp only [Value.slice.injEq, Option.some.injEq, Addr.mk.injEq, and_true] at he3
          obtain ⟨⟨rfl, rfl⟩, -, rfl⟩ := he3
          have y3 := hcell3 j (ptr (g.ob r)) (by simp [hr])
          have y4 : wb.cell? ⟨g.ob r, 2, none⟩ = some (.int .i64 (r : Int)) := by rw [cell_row (Fr.heap hgrb (hobj r hrn) id)]; rfl
          simp only [ptr] at y3
          clear hcell3
          obtain ⟨v9, w9, Hr9, ho9, hf9, hf9b, -, -⟩ := app1 (P := Tryz.prog) (t := 29) (ty := 29) elem3 Tryz.underlying29 hol (.int .i64 (r : Int)) rfl hgb.size (by omega) (by omega)
          go_wp2_with (at_builtin; refine wpList_appended rfl _ _ _ _ rfl rfl rfl Hr9 ?_)
          go_roundw
          case rel =>
            refine ⟨j + 1, by omega, by go_num, ?_, hgb.step hf9b (fun b hb => hb)⟩
            rw [take_snoc hr]
            simpa [ints, intV] using ho9
          case measure => simp [intOf]; omega
        · have hjz : j = (it p k).n := by omega
          have htk : (objs p k).take j = objs p k := List.take_of_length_le (by omega)
          rw [htk] at hol
          obtain ⟨A5, c5, rfl⟩ := hol.val
          obtain ⟨v6, w6, Hr6, hown6, hf6, -⟩ := OwnLists.push (t := 32) (ty := 32) (hown.gr hgb) (x := ints (objs p k)) (hol.ints.mono (fun b _ hb e => by have := hown.lt b e; omega)) Tryz.underlying32 (by have := (hgr.trans hgb).size; omega) (by rw [lists_length, List.length_map, List.length_take]; omega)
          go_wp2_with (at_builtin; refine wpList_appended rfl _ _ _ _ rfl rfl rfl Hr6 ?_)
          go_roundw
          case rel =>
            refine ⟨t + 1, by omega, by go_num, ?_, (hgr.trans hgb).step hf6 (fun b hb => hb)⟩
            rw [take_snoc hkt, List.map_append, List.map_cons, List.map_nil, lists_snoc]
            exact hown6
          case measure => simp [intOf]; omega
    · have ht0 : t = eks.length := by omega
      subst ht0
      rw [List.take_length, Hem.out] at hown
      have k3 : wr.cell? ⟨cb, 2, none⟩ = some (.slice none 0 0) := by rw [cell_row (Fr.heap hgr hcb2 id)]; rfl
      go_wp2
      go_loopw [3, 63] (ORel3 wr) (fun _ _ _ => 0)
      case atStart => exact ⟨rfl, rfl, rfl⟩
      case round =>
        obtain ⟨rfl, rfl, rfl⟩ := hrel
        go_wp2
        go_ret2
        exact ⟨_, _, rfl, ⟨L', hG, hFl, rfl⟩, hown.lists, hg2.trans hgr⟩

set_option maxRecDepth 100000 in
/-- 'impl.Order(items)' -/
theorem implOrder_any (w : World) (ok : Nat → Prop) (A : Option Addr) (c : Nat) (p : List It) (hp : Its w ok (.slice A p.length c) p) (hO : Ok p) :
    Calls Tryz.prog 44 #[.slice A p.length c] w (POrd w p) := by
  go_enter Tryz.func44, Tryz.ntmps44
  go_wp2_with (first
    | (go_at_call 57; refine (InitOrder_any w1 (fun _ => True) A1 c1 p hn1 hO).mono ?_; rintro e w2 ⟨v2, l, rfl, hem, hl2, hg2⟩)
    | (go_at_call 54; refine (nodes_any w ok A c p hp hO.kinds hO.len).mono ?_; rintro e w1 ⟨v1, rfl, hn1, hg1⟩; replace hn1 := hn1.nds; obtain ⟨A1, c1, hv⟩ := hn1.val; rw [nodesOf_length] at hv; subst hv))
  go_ret2
  exact ⟨_, l, rfl, hem, hl2, hg1.trans hg2⟩

/-- What 'order' returns. -/
def POrder (w : World) (p : List It) (e : Ending) (w' : World) : Prop :=
  ∃ v l, e = .returned (.tuple #[v, .bool true]) ∧ Em p l ∧ Lists w' (fun _ => True) v (lists l) ∧ Gr w w'

set_option maxRecDepth 100000 in
/-- 'order(p)' -/
theorem order_law_any (w : World) (ok : Nat → Prop) (A : Option Addr) (c : Nat) (p : List It) (hp : Its w ok (.slice A p.length c) p) (hO : Ok p) :
    Calls Tryz.prog 20 #[.slice A p.length c] w (POrder w p) := by
  have hlen := hO.len
  go_enter Tryz.func20, Tryz.ntmps20
  go_wp2_with (first
    | (go_at_call 44; refine (implOrder_any w1 (fun _ => True) A1 c1 p hn1 hO).mono ?_; rintro e w2 ⟨v2, l, rfl, hem, hl2, hg2⟩)
    | (go_at_call 45; refine (given_any w ok A c p hp (by omega)).mono ?_; rintro e w1 ⟨v1, rfl, hn1, hg1⟩; replace hn1 := hn1.its; obtain ⟨A1, c1, hv⟩ := hn1.val; subst hv))
  go_ret2
  exact ⟨_, l, rfl, hem, hl2, hg1.trans hg2⟩

theorem Em.unique {p : List It} {a b : List (List Nat)} (ha : Em p a) (hb : Em p b) : a = b := by
  obtain ⟨L, h1, h2, rfl⟩ := ha
  obtain ⟨M, h3, h4, rfl⟩ := hb
  rw [h1.unique h2 h3 h4]

theorem Em.size {p : List It} (hK : KOk p) {a : List (List Nat)} (ha : Em p a) : a.length ≤ cnt p ∧ ∀ x ∈ a, x.length ≤ 100 := by
  obtain ⟨L, h1, h2, rfl⟩ := ha
  unfold emit
  constructor
  · rw [List.length_map]
    have h3 := nodup_length_le h1.nodup (fun x hx => (h1.mem x hx).1)
    have h4 := List.length_filter_le (fun r => (it p (own p r)).ini && (r == start p (own p r))) L
    omega
  · intro x hx
    obtain ⟨r, hr, rfl⟩ := List.mem_map.1 hx
    have h5 := h1.mem r (List.mem_filter.1 hr).1
    rw [objs_length]
    exact (n_pos hK (it_mem (own_spec h5.1).1)).2

/-! ### The declarations of 'works' -/
def p0 : List It := [⟨0, 0, [1]⟩, ⟨0, 0, []⟩]
theorem it_p0 (k : Nat) : (it p0 k).kind = 0 := by
  match k with
  | 0 => rfl
  | 1 => rfl
  | k + 2 => rfl
theorem cnt_p0 : cnt p0 = 2 := by decide
theorem own_p0 : own p0 0 = 0 ∧ own p0 1 = 1 := by decide
theorem rch_p0 {k s : Nat} (h : Rch p0 fFunc k s) : (s : Int) ∈ (it p0 k).refs := by
  cases h with
  | ref h => exact h
  | step _ h2 _ => simp [fFunc, it_p0] at h2
theorem gdy_p0 : Gdy (Vn p0) (Nn p0) [1, 0] := by
  have hv : ∀ r, r < 2 → Vn p0 r := fun r hr => ⟨by rw [cnt_p0]; exact hr, by simp [It.var, it_p0]⟩
  have h1 : ∀ s, ¬ Nn p0 1 s := fun s hs => by
    have := rch_p0 hs.1
    rw [own_p0.2] at this
    simp [it, p0] at this
  have h0 : ∀ s, Nn p0 0 s ↔ s = 1 := fun s => by
    constructor
    · intro hs
      have := rch_p0 hs.1
      rw [own_p0.1] at this
      simp [it, p0] at this
      omega
    · rintro rfl
      refine ⟨.ref ?_, by rw [cnt_p0]; omega, by simp [It.var, it_p0]⟩
      rw [own_p0.1]
      simp [it, p0]
  have g1 : Gdy (Vn p0) (Nn p0) ([] ++ [1]) := .snoc .nil ⟨hv 1 (by omega), by simp, fun s hs => absurd hs (h1 s)⟩ (fun u hu hc => by
    have : u = 0 := by omega
    subst this
    have := hc.2.2 1 ((h0 1).2 rfl)
    simp at this)
  have g2 : Gdy (Vn p0) (Nn p0) (([] ++ [1]) ++ [0]) := .snoc g1 ⟨hv 0 (by omega), by simp, fun s hs => by rw [(h0 s).1 hs]; simp⟩ (fun u hu _ => by omega)
  exact g2
theorem full_p0 : FullG (Vn p0) [1, 0] := fun v hv => by
  have := hv.1
  rw [cnt_p0] at this
  have : v = 0 ∨ v = 1 := by omega
  rcases this with rfl | rfl <;> simp
theorem em_p0 {l : List (List Nat)} (h : Em p0 l) : l = [[1], [0]] := h.unique ⟨_, gdy_p0, full_p0, by decide⟩
theorem ok_p0 : Ok p0 where
  len := by simp [p0]
  kinds x hx := by
    simp [p0] at hx
    rcases hx with rfl | rfl <;> simp
  refs x hx r hr := by
    rw [cnt_p0]
    simp [p0] at hx
    rcases hx with rfl | rfl
    · simp at hr; omega
    · simp at hr
  wt k hk := by
    match k with
    | 0 => simp [it, p0]
    | 1 => simp [it, p0]
    | k + 2 => exact absurd (show k + 2 < 2 from hk) (by omega)
  const r _ h4 := by simp [kindAt, it_p0] at h4
  acy := ⟨_, gdy_p0, full_p0⟩

theorem ints_one (w : World) (ok : Nat → Prop) (x : Int) {b : Nat} (hb : w.heap[b]? = some (.cells #[.int .i64 x] 3 (0, 0))) (hk : ok b) : Ints w ok (.slice (some ⟨b, 0, none⟩) 1 1) [x] :=
  ⟨by simp, _, _, rfl, Nat.le_refl _, .inr ⟨b, 0, rfl, hk, heap_lt hb, fun j u hj => by
    rw [cell_row hb]
    match j with
    | 0 => simpa [intV] using hj
    | j + 1 => simp at hj⟩⟩

set_option maxHeartbeats 1000000 in
set_option maxRecDepth 100000 in
/-- 'works()' -/
theorem works_any (w : World) : Calls Tryz.prog 24 #[] w (fun e w' => e = .returned (.bool true) ∧ Gr w w') := by
  have g1 := (Gr.refl w).alloc (.cells #[.int .i64 1] 3)
  have g2 := g1.alloc (.cells #[.int .i64 0, .int .i64 0, .slice (some ⟨w.heap.size, 0, none⟩) 1 1, .int .i64 0, .int .i64 0, .slice none 0 0] 47)
  have hits : Its ((w.alloc (.cells #[.int .i64 1] 3)).alloc (.cells #[.int .i64 0, .int .i64 0, .slice (some ⟨w.heap.size, 0, none⟩) 1 1, .int .i64 0, .int .i64 0, .slice none 0 0] 47)) (fun _ => True) (.slice (some ⟨w.heap.size + 1, 0, none⟩) p0.length 2) p0 := by
    refine ⟨[.slice (some ⟨w.heap.size, 0, none⟩) 1 1, .slice none 0 0], rfl, ⟨rfl, _, _, rfl, Nat.le_refl _, .inr ⟨w.heap.size + 1, 0, rfl, trivial, by simp, fun j u hj => ?_⟩⟩, fun i x u hx hu => ?_⟩
    · have hrow := heap_alloc_new (w.alloc (.cells #[.int .i64 1] 3)) (.cells #[.int .i64 0, .int .i64 0, .slice (some ⟨w.heap.size, 0, none⟩) 1 1, .int .i64 0, .int .i64 0, .slice none 0 0] 47)
      simp only [World.size_alloc] at hrow
      rw [cell_row hrow, Nat.zero_add]
      simpa [p0, itCells, intV] using hj
    · match i with
      | 0 =>
        simp [p0] at hx hu
        subst hx; subst hu
        exact ints_one _ _ 1 (Fr.heap ((Gr.refl _).alloc _) (heap_alloc_new w _) id) trivial
      | 1 =>
        simp [p0] at hx hu
        subst hx; subst hu
        exact Arr.nil _ _ _
      | i + 2 => simp [p0] at hx
  have hord := order_law_any _ (fun _ => True) _ 2 p0 hits ok_p0
  have hl0 : p0.length = 2 := rfl
  rw [hl0] at hord
  have hlit : ∀ u : World, Lists (((u.alloc (.cells #[.int .i64 1] 3)).alloc (.cells #[.int .i64 0] 3)).alloc (.cells #[.slice (some ⟨u.heap.size, 0, none⟩) 1 1, .slice (some ⟨u.heap.size + 1, 0, none⟩) 1 1] 29)) (fun _ => True) (.slice (some ⟨u.heap.size + 1 + 1, 0, none⟩) 2 2) [[1], [0]] := fun u => by
    refine ⟨[.slice (some ⟨u.heap.size, 0, none⟩) 1 1, .slice (some ⟨u.heap.size + 1, 0, none⟩) 1 1], rfl, ⟨rfl, _, _, rfl, Nat.le_refl _, .inr ⟨u.heap.size + 1 + 1, 0, rfl, trivial, by simp, fun j v hj => ?_⟩⟩, fun i x v hx hv => ?_⟩
    · have hrow := heap_alloc_new ((u.alloc (.cells #[.int .i64 1] 3)).alloc (.cells #[.int .i64 0] 3)) (.cells #[.slice (some ⟨u.heap.size, 0, none⟩) 1 1, .slice (some ⟨u.heap.size + 1, 0, none⟩) 1 1] 29)
      simp only [World.size_alloc] at hrow
      rw [cell_row hrow, Nat.zero_add]
      simpa using hj
    · match i with
      | 0 =>
        simp at hx hv
        subst hx; subst hv
        exact ints_one _ _ 1 (Fr.heap (((Gr.refl _).alloc _).alloc _) (heap_alloc_new u _) id) trivial
      | 1 =>
        simp at hx hv
        subst hx; subst hv
        have hrow := heap_alloc_new (u.alloc (.cells #[.int .i64 1] 3)) (.cells #[.int .i64 0] 3)
        simp only [World.size_alloc] at hrow
        exact ints_one _ _ 0 (Fr.heap ((Gr.refl _).alloc _) hrow id) trivial
      | i + 2 => simp at hx
  have hll : (lists [[1], [0]]).length = 2 := rfl
  have hlo : lists [[1], [0]] = [[1], [0]] := rfl
  have hcmp : ∀ (u : World) (A : Option Addr) (c : Nat), Lists u (fun _ => True) (.slice A 2 c) [[1], [0]] → Calls Tryz.prog 21 #[.slice A 2 c, .slice (some ⟨u.heap.size + 1 + 1, 0, none⟩) 2 2] (((u.alloc (.cells #[.int .i64 1] 3)).alloc (.cells #[.int .i64 0] 3)).alloc (.cells #[.slice (some ⟨u.heap.size, 0, none⟩) 1 1, .slice (some ⟨u.heap.size + 1, 0, none⟩) 1 1] 29)) (fun e w' => e = .returned (.bool true) ∧ Gr u w') := fun u A c h => by
    refine (lists_any _ (fun _ => True) (fun _ => True) A _ c 2 [[1], [0]] [[1], [0]] (h.gr ((((Gr.refl u).alloc _).alloc _).alloc _)) (hlit u) (by simp) (by simp)).mono ?_
    rintro e w' ⟨rfl, hq⟩
    exact ⟨by simp, ((((Gr.refl u).alloc _).alloc _).alloc _).trans hq.gr⟩
  go_enter Tryz.func24, Tryz.ntmps24
  go_wp2_with (first
    | (go_at_call 21; refine (hcmp w3 A3 c3 hl3).mono ?_; rintro e w4 ⟨rfl, hg4⟩)
    | (go_at_call 20; refine hord.mono ?_; rintro e w3 ⟨v, l, rfl, hem, hl3, hg3⟩; rw [em_p0 hem] at hl3; obtain ⟨A3, c3, hv⟩ := hl3.val; rw [hll] at hv; subst hv; rw [hlo] at hl3))
  go_ret
  exact ⟨rfl, (g2.trans hg3).trans hg4⟩

set_option maxHeartbeats 1000000 in
set_option maxRecDepth 100000 in
/-- 'equal(p, q)' where both have one order. -/
theorem equal_any (w : World) (ok ok' : Nat → Prop) (A B : Option Addr) (c d : Nat) (p q : List It) (hp : Its w ok (.slice A p.length c) p) (hq : Its w ok' (.slice B q.length d) q) (hO : Ok p) (hO' : Ok q) (he : ∀ a, Em p a → Em q a) :
    Calls Tryz.prog 25 #[.slice A p.length c, .slice B q.length d] w (fun e w' => e = .returned (.bool true) ∧ Gr w w') := by
  have hw := works_any
  go_enter Tryz.func25, Tryz.ntmps25
  go_wp2_with (first
    | (go_at_call 24; refine (hw _).mono ?_; rintro e w6 ⟨rfl, hg6⟩)
    | (go_at_call 21; refine hcmp.mono ?_; rintro e w5 ⟨rfl, hq5⟩)
    | (go_at_call 20; refine (order_law_any w1 ok' B d q (hq.gr hg1) hO').mono ?_; rintro e w2 ⟨v2, b, rfl, hem2, hl2, hg2⟩; obtain rfl := (he _ hem1).unique hem2; obtain ⟨A2, c2, rfl⟩ := hl2.val; have hsz := Em.size hO'.kinds hem2; have hcl := cnt_le hO'.kinds; have hln := hO'.len; have hcmp := lists_any w2 (fun _ => True) (fun _ => True) A1 A2 c1 c2 _ _ (hl1.gr hg2) hl2 (by rw [lists_length]; omega) (fun x hx => by obtain ⟨y, hy, rfl⟩ := List.mem_map.1 hx; have := hsz.2 y hy; rw [ints_length]; omega); rw [decide_eq_true rfl] at hcmp; clear hsz hcl hln)
    | (go_at_call 20; refine (order_law_any w ok A c p hp hO).mono ?_; rintro e w1 ⟨v1, a, rfl, hem1, hl1, hg1⟩; obtain ⟨A1, c1, rfl⟩ := hl1.val))
  go_ret
  exact ⟨rfl, ((hg1.trans hg2).trans hq5.gr).trans hg6⟩
end Go.Proofs.YtelfaljidgfphaaGreat
