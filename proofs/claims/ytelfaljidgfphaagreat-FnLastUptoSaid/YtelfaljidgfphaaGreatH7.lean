/-
  The queue's Pop; 'up', 'Init', 'Fix' and 'Pop' of container/heap.
-/
import Derived.Test.YtelfaljidgfphaaGreatH6
namespace Go.Proofs.YtelfaljidgfphaaGreat
open Go.RowKit

theorem Own.shrink {w : World} {ok : Nat → Prop} {e n m c : Nat} {A : Option Addr} {cs ds : List Value} (h : Own w ok e 1 (.slice A n c) n (cs ++ ds)) (hm : cs.length = m) : Own w ok e 1 (.slice A m c) m cs := by
  obtain ⟨h1, h2⟩ := h
  refine ⟨by simpa using hm, ?_⟩
  rcases h2 with ⟨h2, rfl⟩ | ⟨g, o, cap, cur, he, hok, hg, hnc, hcm, hcs, ht⟩
  · simp only [Value.slice.injEq] at h2
    obtain ⟨rfl, _, rfl⟩ := h2
    have : m = 0 := by simp at h1; have := h1.1; subst this; simpa using hm.symm
    subst this
    exact .inl ⟨rfl, rfl⟩
  · simp only [Value.slice.injEq, true_and] at he
    obtain ⟨rfl, rfl⟩ := he
    have hle : m ≤ n := by simp at h1; omega
    refine .inr ⟨g, o, c, cur, rfl, hok, hg, by omega, hcm, hcs, ?_⟩
    rw [Nat.mul_one] at ht ⊢
    have h3 : ((cur.toList.drop o).take n).take m = cs := by rw [ht, ← hm]; exact List.take_left
    rw [List.take_take, Nat.min_eq_left hle] at h3
    exact h3

theorem info83' : (Tryz.prog.info? 83).map (fun i => (i.zero, i.size, i.bytes)) = some (some (.pointer none), 1, 8) := by kernel_rfl
theorem slice_head (gb o n m cap : Nat) (hm : m ≤ n) (hcap : n ≤ cap) (u : World) : (Instr.slice 125 (.slice (some ⟨gb, o, none⟩) n cap) none (some (.int .i64 (m : Int))) none).run Tryz.prog u = .ok (.slice (some ⟨gb, o, none⟩) m cap) u := by
  obtain ⟨i0, hi, hz0, hz1, hz2⟩ := info_parts info83'
  have hs : (Instr.sliceBound (.int .i64 (m : Int)) cap .sliceAcap).run Tryz.prog u = .ok m u := by
    have := run_sliceBound (P := Tryz.prog) u .i64 (m : Int) cap .sliceAcap (by omega) (by omega)
    simpa using this
  simp [Instr.slice, run_underlying Tryz.underlying125, Instr.sliceBounds, hs, sizeOf, typeInfo, hi, Addr.add]

section
variable {p : List It} {B : Nat} {g : Gh} {nd : Nat → Nat} {mb : Bool → Nat → Option Nat} {ks : Bool → Nat → List Nat} {dp : Nat → Int} {pq : Nat} {A : Option Addr} {c : Nat} {q : List Nat} {w w' : World}

set_option maxHeartbeats 1000000 in
set_option maxRecDepth 100000 in
/-- 'a.Pop()' -/
theorem Qu.pop {q0 : List Nat} {x : Nat} (h : Qu p B g nd mb ks dp pq A c (q0 ++ [x]) w) (hl : (q0 ++ [x]).length ≤ 1099511627776) :
    Calls Tryz.prog 164 #[.pointer (some ⟨pq, 0, none⟩)] w (fun e w' => e = .returned (.iface 83 (ptr (nd x))) ∧ Qu p B g nd mb ks dp pq A c q0 w' ∧ Fr (AtQ (cnt p) nd pq A) w w') := by
  have hlen : (q0 ++ [x]).length = q0.length + 1 := by simp
  obtain ⟨gb, o, cap', cur', he', hok', hgb, hcap, -, -⟩ := h.row.at_ (by omega)
  simp only [Value.slice.injEq, true_and] at he'
  obtain ⟨rfl, rfl⟩ := he'
  obtain ⟨gb2, o2, cur, he2, hB, hgb2, hcell⟩ := h.cells (by omega)
  simp only [Option.some.injEq, Addr.mk.injEq, and_true] at he2
  obtain ⟨rfl, rfl⟩ := he2
  have hx : (q0 ++ [x])[q0.length]? = some x := by simp
  obtain ⟨hx1, hx2⟩ := h.mem x (by simp)
  obtain ⟨ix, hgs, hix, hout⟩ := h.gs
  obtain ⟨hn1, hn2, hn3, hn4⟩ := h.rowNe hgb
  obtain ⟨hp1, hp2⟩ := h.nodeNe hx1
  have ai := hcell _ _ hx
  have hbox := h.boxCell
  have x3 : w.cell? ⟨nd x, 3, none⟩ = some (.int .i64 (ix x)) := by rw [cell_row (hgs.node x hx1)]; rfl
  have xf := frozen_row (hgs.node x hx1)
  have bf := frozen_row h.box
  have hf1 := fr_set w (nd x) 3 (.int .i64 (-1))
  have hf2 := fr_set (w.setCell ⟨nd x, 3, none⟩ (.int .i64 (-1))) pq 0 (.slice (some ⟨gb, o, none⟩) q0.length c)
  have hnd := h.nodup
  have hxq : x ∉ q0 := fun hm => (List.nodup_append.1 hnd).2.2 x hm x (by simp) rfl
  have hsets : ∀ c r b, r < cnt p → mb c r = some b → b ≠ pq := fun c r b hr hb e => (hgs.set c r b hr hb).1.ne h.box e
  have fin : Qu p B g nd mb ks dp pq (some ⟨gb, o, none⟩) c q0 ((w.setCell ⟨nd x, 3, none⟩ (.int .i64 (-1))).setCell ⟨pq, 0, none⟩ (.slice (some ⟨gb, o, none⟩) q0.length c)) ∧
      Fr (AtQ (cnt p) nd pq (some ⟨gb, o, none⟩)) w ((w.setCell ⟨nd x, 3, none⟩ (.int .i64 (-1))).setCell ⟨pq, 0, none⟩ (.slice (some ⟨gb, o, none⟩) q0.length c)) := by
    refine ⟨?_, (hf1.mono (fun b _ e => .inl ⟨x, hx1, e⟩)).trans (hf2.mono (fun b _ e => .inr (.inl e)))⟩
    exact {
      gs := by
        refine ⟨_, (hgs.setI hx1 (-1)).fr hf2 (fun r hr e => (h.nodeNe hr).1 e.symm) hsets, fun j r hj => ?_, fun r hr hr3 hrq => ?_⟩
        · have hr : r ∈ q0 := List.mem_of_getElem? hj
          rw [if_neg (show ¬ r = x by rintro rfl; exact hxq hr)]
          exact hix j r (by rw [List.getElem?_append_left (List.getElem?_eq_some_iff.1 hj).1]; exact hj)
        · by_cases e : r = x
          · rw [if_pos e]
          · rw [if_neg e]
            exact hout r hr hr3 (by simp [hrq, e])
      box := by rw [heap_setCell_same _ _ _ _ _ _ (hf1.heap h.box hp1)]; rfl
      row := by
        have h1 := h.row
        rw [List.map_append] at h1
        have h2 := h1.shrink (m := q0.length) (by simp)
        have hb : ∀ k, (Value.slice (some ⟨gb, o, none⟩) q0.length c).ownBlock = some k → k = gb := fun k e => by simp [Value.ownBlock] at e; exact e.symm
        exact (h2.fr hf1 (fun k hk e => by have := hb k hk; exact hn1 x hx1 (by omega))).fr hf2 (fun k hk e => by have := hb k hk; exact hn2 (by omega))
      obj := fun t ht => hf2.heap (hf1.heap (h.obj t ht) (hp2 t ht)) (ne_cells (h.obj t ht) h.box (by rcases tyE_cases p t with e | e | e <;> rw [e] <;> decide))
      mem := fun t ht => h.mem t (by simp [ht])
      nodup := (List.nodup_append.1 hnd).1
      dpb := fun t ht => h.dpb t (by simp [ht]) }
  have F1 : (w.setCell ⟨nd x, 3, none⟩ (.int .i64 (-1))).cell? ⟨pq, 0, none⟩ = some (.slice (some ⟨gb, o, none⟩) (q0.length + 1) c) := by rw [← hlen]; exact cell_set_far hbox (fun e => hp1 e.symm)
  have hsl := slice_head gb o (q0.length + 1) q0.length c (by omega) (by omega)
  have hl1 : (q0.length : Int) ≤ 1099511627776 := by omega
  rw [hlen] at hbox
  have hlt : (q0.length : Int) < ((q0.length + 1 : Nat) : Int) := by omega
  have hld := load_125 w pq _ hbox
  have hld2 := load_125 _ pq _ F1
  clear hcell hgs hix hout h hx
  go_enter Tryz.func164, Tryz.ntmps164
  go_wp2
  go_ret
  exact ⟨rfl, fin.1, fin.2⟩
end
end Go.Proofs.YtelfaljidgfphaaGreat
