/-
  The walks of 'InitOrder' (package initorder), of package impl's Order and of package laws' order.
-/
import Derived.Test.YtelfaljidgfphaaGreatF4
namespace Go.Proofs.YtelfaljidgfphaaGreat
open Go.RowKit

/-- Declarations of which an order is asked. -/
structure Ok (p : List It) : Prop where
  len : p.length ≤ 2097152
  kinds : KOk p
  refs : ROk p
  wt : ∀ k, k < p.length → (it p k).refs.length ≤ 1099511627776
  const : ∀ r, r < cnt p → kindAt p r = 4 → ¬ Rch p fAll (own p r) r
  acy : Acy p

/-- l is what is told of p's order. -/
def Em (p : List It) (l : List (List Nat)) : Prop := ∃ L, Gdy (Vn p) (Nn p) L ∧ FullG (Vn p) L ∧ l = emit p L

def ORel1 (p : List It) (eks : List Nat) (w2 : World) (v i : Value) (wr : World) : Prop :=
  ∃ t : Nat, t ≤ eks.length ∧ i = .int .i64 (t : Int) ∧ OwnLists wr w2.heap.size v (lists ((eks.take t).map (objs p))) ∧ Gr w2 wr
def ORel2 (p : List It) (k : Nat) (w3 : World) (v i : Value) (wr : World) : Prop :=
  ∃ j : Nat, j ≤ (it p k).n ∧ i = .int .i64 (j : Int) ∧ Own wr (fun b => w3.heap.size ≤ b) 3 1 v (ints ((objs p k).take j)).length ((ints ((objs p k).take j)).map intV) ∧ Gr w3 wr
def ORel3 (w4 : World) (v i : Value) (wr : World) : Prop := v = .slice none 0 0 ∧ i = .int .i64 0 ∧ wr = w4

/-- What 'InitOrder' returns. -/
def POrd (w : World) (p : List It) (e : Ending) (w' : World) : Prop :=
  ∃ v l, e = .returned (.tuple #[v, .slice none 0 0]) ∧ Em p l ∧ Lists w' (fun _ => True) v (lists l) ∧ Gr w w'

set_option maxHeartbeats 4000000 in
set_option maxRecDepth 100000 in
theorem InitOrder_any (w : World) (ok : Nat → Prop) (A : Option Addr) (c : Nat) (p : List It) (hp : Nds w ok (.slice A (cnt p) c) (nodesOf p (cnt p))) (hO : Ok p) :
    Calls Tryz.prog 57 #[.slice A (cnt p) c] w (POrd w p) := by
  have hk := hO.kinds
  have hlen := hO.len
  have hcnt := cnt_le hk
  have hcnt : cnt p ≤ 209715200 := by omega
  go_enter Tryz.func57, Tryz.ntmps57
  go_wp2_with (first
    | (go_at_call 62; refine (initOrder_any w1 _ L om cb ib p g ks hB hks hcnt hk hO.refs hO.const hO.acy zcb zib).mono ?_; rintro e w2 ⟨rfl, L', eks, v, hG, hFl, hem, hnd, hkl, hib2, hini, hf2⟩; have hcb2 := hf2.heap zcb (ne_cells zcb zib (by decide)); have k1 : w2.cell? ⟨cb, 1, none⟩ = some (.pointer (some ⟨ib, 0, none⟩)) := (by rw [cell_row hcb2]; rfl); have k2 : w2.cell? ⟨ib, 0, none⟩ = some v := (by rw [cell_row hib2]; rfl); obtain ⟨ads, had1, had2, had3⟩ := hini; obtain ⟨A2, c2, rfl⟩ := had2.val)
    | (go_at_call 58; refine (build_any w ok A c p hp hk hO.refs hlen hO.wt).mono ?_; rintro e w1 ⟨cb, ib, om, L, g, ks, rfl, hcb, hib, hom, hL, zcb, zib, hB, hks, hg1⟩))
  have hg2 : Gr w w2 := hg1.step hf2 (fun b hb => by omega)
  have hobj : ∀ d, d < cnt p → w2.heap[g.ob d]? = some (.cells #[.string ⟨#[]⟩, .int .u32 (d : Int), .int .i64 (d : Int)] (tyE p d) (0, 0)) := fun d hd => (hB.frCell zib rfl hf2).obj d hd
  have hel : eks.length ≤ 209715200 := by have := nodup_length_le hnd hkl; omega
  have Hem := Lib.hid hem
  clear hem hB hks zcb zib hf2 hib2
  go_loopw [2, 31] (ORel1 p eks w2) (fun _ i _ => eks.length - (intOf i).toNat)
  case atStart => exact ⟨0, by omega, rfl, by simpa [lists] using OwnLists.nil w2 w2.heap.size, Gr.refl w2⟩
  case round =>
    obtain ⟨t, htl, rfl, hown, hgr⟩ := hrel
    by_cases hlt : t < eks.length
    · obtain ⟨k, hkt⟩ := get_lt hlt
      have hkp := hkl k (List.mem_of_getElem? hkt)
      obtain ⟨a, hat⟩ := get_lt (l := ads) (k := t) (by omega)
      obtain ⟨hage, sl, hrow, hlhs⟩ := had3 t a k hat hkt
      obtain ⟨g1, o1, cap1, cur1, he1, -, -, -, -, hcell1⟩ := (had2.gr hgr).at_ (by omega)
      simp only [Value.slice.injEq] at he1
      obtain ⟨rfl, -, rfl⟩ := he1
      have y0 := hcell1 t (ptr a) (by simp [hat])
      simp only [ptr] at y0
      have hn1 := n_pos hk (it_mem hkp)
      have hrow1 := Fr.heap hgr hrow id
      have y1 : wr.cell? ⟨a, 0, none⟩ = some sl := by rw [cell_row hrow1]; rfl
      obtain ⟨g2, o2, cap2, cur2, rfl, -, -, -, -, -⟩ := (hlhs.gr hgr).at_ (by omega)
      have hoc : (objs p k).length = (it p k).n := objs_length p k
      clear hcell1
      go_wp2
      go_loopw [8, 40] (ORel2 p k wr) (fun _ i _ => (it p k).n - (intOf i).toNat)
      case atStart => exact ⟨0, by omega, rfl, by simpa [ints] using Own.nil _ _ _ _, Gr.refl wr⟩
      case round =>
        rename World => wb
        obtain ⟨j, hjn, rfl, hol, hgb⟩ := hrel
        have hjl : (ints ((objs p k).take j)).length = j := by rw [ints_length, List.length_take]; omega
        by_cases hjt : j < (it p k).n
        · obtain ⟨r, hr⟩ := get_lt (l := objs p k) (k := j) (by omega)
          have hrn : r < cnt p := ((mem_objs hkp).1 (List.mem_of_getElem? hr)).1
          have hgrb := hgr.trans hgb
          obtain ⟨g3, o3, cap3, cur3, he3, -, -, -, -, hcell3⟩ := (hlhs.gr hgrb).at_ (by omega)
          simp only [Value.slice.injEq, Option.some.injEq, Addr.mk.injEq, and_true] at he3
          obtain ⟨⟨rfl, rfl⟩, -, rfl⟩ := he3
          have y3 := hcell3 j (ptr (g.ob r)) (by simp [hr])
          have y4 : wb.cell? ⟨g.ob r, 2, none⟩ = some (.int .i64 (r : Int)) := by rw [cell_row (Fr.heap hgrb (hobj r hrn) id)]; rfl
          simp only [ptr] at y3
          clear hcell3
          obtain ⟨v9, w9, Hr9, ho9, hf9, hf9b, -, -⟩ := app1 (P := Tryz.prog) (t := 29) (ty := 29) elem3 Tryz.underlying29 hol (.int .i64 (r : Int)) rfl hgb.size (by omega) (by omega)
          go_wp2_with (at_builtin; refine wpList_appended rfl _ _ _ _ rfl rfl rfl Hr9 ?_)
          go_roundw
          case rel =>
            refine ⟨j + 1, by omega, by go_num, ?_, hgb.step hf9b (fun b hb => hb)⟩
            rw [take_snoc hr]
            simpa [ints, intV] using ho9
          case measure => simp [intOf]; omega
        · have hjz : j = (it p k).n := by omega
          have htk : (objs p k).take j = objs p k := List.take_of_length_le (by omega)
          rw [htk] at hol
          obtain ⟨A5, c5, rfl⟩ := hol.val
          obtain ⟨v6, w6, Hr6, hown6, hf6, -⟩ := OwnLists.push (t := 32) (ty := 32) (hown.gr hgb) (x := ints (objs p k)) (hol.ints.mono (fun b _ hb e => by have := hown.lt b e; omega)) Tryz.underlying32 (by have := (hgr.trans hgb).size; omega) (by rw [lists_length, List.length_map, List.length_take]; omega)
          go_wp2_with (at_builtin; refine wpList_appended rfl _ _ _ _ rfl rfl rfl Hr6 ?_)
          go_roundw
          case rel =>
            refine ⟨t + 1, by omega, by go_num, ?_, (hgr.trans hgb).step hf6 (fun b hb => hb)⟩
            rw [take_snoc hkt, List.map_append, List.map_cons, List.map_nil, lists_snoc]
            exact hown6
          case measure => simp [intOf]; omega
    · have ht0 : t = eks.length := by omega
      subst ht0
      rw [List.take_length, Hem.out] at hown
      have k3 : wr.cell? ⟨cb, 2, none⟩ = some (.slice none 0 0) := by rw [cell_row (Fr.heap hgr hcb2 id)]; rfl
      go_wp2
      go_loopw [3, 63] (ORel3 wr) (fun _ _ _ => 0)
      case atStart => exact ⟨rfl, rfl, rfl⟩
      case round =>
        obtain ⟨rfl, rfl, rfl⟩ := hrel
        go_wp2
        go_ret2
        exact ⟨_, _, rfl, ⟨L', hG, hFl, rfl⟩, hown.lists, hg2.trans hgr⟩

set_option maxRecDepth 100000 in
/-- 'impl.Order(items)' -/
theorem implOrder_any (w : World) (ok : Nat → Prop) (A : Option Addr) (c : Nat) (p : List It) (hp : Its w ok (.slice A p.length c) p) (hO : Ok p) :
    Calls Tryz.prog 44 #[.slice A p.length c] w (POrd w p) := by
  go_enter Tryz.func44, Tryz.ntmps44
  go_wp2_with (first
    | (go_at_call 57; refine (InitOrder_any w1 (fun _ => True) A1 c1 p hn1 hO).mono ?_; rintro e w2 ⟨v2, l, rfl, hem, hl2, hg2⟩)
    | (go_at_call 54; refine (nodes_any w ok A c p hp hO.kinds hO.len).mono ?_; rintro e w1 ⟨v1, rfl, hn1, hg1⟩; replace hn1 := hn1.nds; obtain ⟨A1, c1, hv⟩ := hn1.val; rw [nodesOf_length] at hv; subst hv))
  go_ret2
  exact ⟨_, l, rfl, hem, hl2, hg1.trans hg2⟩

/-- What 'order' returns. -/
def POrder (w : World) (p : List It) (e : Ending) (w' : World) : Prop :=
  ∃ v l, e = .returned (.tuple #[v, .bool true]) ∧ Em p l ∧ Lists w' (fun _ => True) v (lists l) ∧ Gr w w'

set_option maxRecDepth 100000 in
/-- 'order(p)' -/
theorem order_law_any (w : World) (ok : Nat → Prop) (A : Option Addr) (c : Nat) (p : List It) (hp : Its w ok (.slice A p.length c) p) (hO : Ok p) :
    Calls Tryz.prog 20 #[.slice A p.length c] w (POrder w p) := by
  have hlen := hO.len
  go_enter Tryz.func20, Tryz.ntmps20
  go_wp2_with (first
    | (go_at_call 44; refine (implOrder_any w1 (fun _ => True) A1 c1 p hn1 hO).mono ?_; rintro e w2 ⟨v2, l, rfl, hem, hl2, hg2⟩)
    | (go_at_call 45; refine (given_any w ok A c p hp (by omega)).mono ?_; rintro e w1 ⟨v1, rfl, hn1, hg1⟩; replace hn1 := hn1.its; obtain ⟨A1, c1, hv⟩ := hn1.val; subst hv))
  go_ret2
  exact ⟨_, l, rfl, hem, hl2, hg1.trans hg2⟩
end Go.Proofs.YtelfaljidgfphaaGreat
