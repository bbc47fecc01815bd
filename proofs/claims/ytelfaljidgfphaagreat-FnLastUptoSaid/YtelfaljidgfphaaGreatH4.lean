/-
  The queue as a state, and the keys of its nodes.
-/
import Derived.Test.YtelfaljidgfphaaGreatH3
import Derived.Test.YtelfaljidgfphaaGreatQ1
namespace Go.Proofs.YtelfaljidgfphaaGreat
open Go.RowKit

section
variable {B n : Nat} {ec : Nat → Value} {nd : Nat → Nat} {mb : Bool → Nat → Option Nat} {ks : Bool → Nat → List Nat} {ix dp : Nat → Int} {w : World}
theorem Gs.setI (h : Gs B n ec nd mb ks ix dp w) {r : Nat} (hr : r < n) (a : Int) : Gs B n ec nd mb ks (fun i => if i = r then a else ix i) dp (w.setCell ⟨nd r, 3, none⟩ (.int .i64 a)) where
  node s hs := by
    by_cases e : s = r
    · subst e
      rw [heap_setCell_same _ _ _ _ _ _ (h.node s hs)]
      simp
    · simp only [if_neg e]
      exact (fr_set w _ _ _).heap (h.node s hs) (fun e' => e (h.inj _ _ hs hr e'))
  ge := h.ge
  inj := h.inj
  nil := h.nil
  set c s b' hs hb := ⟨(h.set c s b' hs hb).1.fr (fr_set w _ _ _) (h.setNe hs hr hb), (h.set c s b' hs hb).2⟩
  sep := h.sep
theorem Gs.setD (h : Gs B n ec nd mb ks ix dp w) {r : Nat} (hr : r < n) (a : Int) : Gs B n ec nd mb ks ix (fun i => if i = r then a else dp i) (w.setCell ⟨nd r, 4, none⟩ (.int .i64 a)) where
  node s hs := by
    by_cases e : s = r
    · subst e
      rw [heap_setCell_same _ _ _ _ _ _ (h.node s hs)]
      simp
    · simp only [if_neg e]
      exact (fr_set w _ _ _).heap (h.node s hs) (fun e' => e (h.inj _ _ hs hr e'))
  ge := h.ge
  inj := h.inj
  nil := h.nil
  set c s b' hs hb := ⟨(h.set c s b' hs hb).1.fr (fr_set w _ _ _) (h.setNe hs hr hb), (h.set c s b' hs hb).2⟩
  sep := h.sep
end

/-- The key of a node: constants first, then by what is left to be done, then by number. -/
def qkey (p : List It) (dp : Nat → Int) (r : Nat) : Int := (if kindAt p r = 4 then 0 else ((cnt p : Int) + 1) * ((cnt p : Int) + 1)) + dp r * ((cnt p : Int) + 1) + r

theorem mul_bound {d m : Int} (h0 : 0 ≤ d) (h : d ≤ m) : 0 ≤ d * (m + 1) ∧ d * (m + 1) + m < (m + 1) * (m + 1) := by
  have h1 := Int.mul_le_mul_of_nonneg_right h (show 0 ≤ m + 1 by omega)
  have h2 := Int.mul_nonneg h0 (show 0 ≤ m + 1 by omega)
  have h3 : (m + 1) * (m + 1) = m * (m + 1) + (m + 1) := by rw [Int.add_mul, Int.one_mul]
  omega
theorem mul_step {d e m : Int} (h : d < e) (hm : 0 ≤ m) : d * (m + 1) + m < e * (m + 1) := by
  have h1 := Int.mul_le_mul_of_nonneg_right (show d + 1 ≤ e by omega) (show 0 ≤ m + 1 by omega)
  rw [Int.add_mul, Int.one_mul] at h1
  omega

section
variable {p : List It} {dp : Nat → Int} {r s : Nat}
theorem qkey_const (hr : r < cnt p) (dr : 0 ≤ dp r ∧ dp r ≤ cnt p) (ds : 0 ≤ dp s ∧ dp s ≤ cnt p) (h1 : kindAt p r = 4) (h2 : kindAt p s ≠ 4) : qkey p dp r < qkey p dp s := by
  unfold qkey
  rw [if_pos h1, if_neg h2]
  have := mul_bound dr.1 dr.2
  have := mul_bound ds.1 ds.2
  omega
theorem qkey_dp (hr : r < cnt p) (hk : kindAt p r = 4 ↔ kindAt p s = 4) (hd : dp r < dp s) : qkey p dp r < qkey p dp s := by
  unfold qkey
  have := mul_step hd (show (0 : Int) ≤ (cnt p : Int) by omega)
  have e : (if kindAt p r = 4 then (0 : Int) else ((cnt p : Int) + 1) * ((cnt p : Int) + 1)) = if kindAt p s = 4 then 0 else ((cnt p : Int) + 1) * ((cnt p : Int) + 1) := by
    by_cases h : kindAt p r = 4
    · rw [if_pos h, if_pos (hk.1 h)]
    · rw [if_neg h, if_neg (fun h' => h (hk.2 h'))]
  rw [e]
  omega
theorem qkey_num (hk : kindAt p r = 4 ↔ kindAt p s = 4) (hd : dp r = dp s) : qkey p dp r < qkey p dp s ↔ r < s := by
  unfold qkey
  have e : (if kindAt p r = 4 then (0 : Int) else ((cnt p : Int) + 1) * ((cnt p : Int) + 1)) = if kindAt p s = 4 then 0 else ((cnt p : Int) + 1) * ((cnt p : Int) + 1) := by
    by_cases h : kindAt p r = 4
    · rw [if_pos h, if_pos (hk.1 h)]
    · rw [if_neg h, if_neg (fun h' => h (hk.2 h'))]
  rw [e, hd]
  omega
end

/-- The queue q: its nodes' keys and places, the box pq that holds the slice. -/
structure Qu (p : List It) (B : Nat) (g : Gh) (nd : Nat → Nat) (mb : Bool → Nat → Option Nat) (ks : Bool → Nat → List Nat) (dp : Nat → Int) (pq : Nat) (A : Option Addr) (c : Nat) (q : List Nat) (w : World) : Prop where
  gs : ∃ ix, Gs B (cnt p) (g.enc p) nd mb ks ix dp w ∧ (∀ j r : Nat, q[j]? = some r → ix r = (j : Int)) ∧ ∀ r, r < cnt p → kindAt p r ≠ 3 → r ∉ q → ix r = -1
  box : w.heap[pq]? = some (.cells #[.slice A q.length c] 125 (0, 0))
  row : Own w (fun b => B ≤ b) 83 1 (.slice A q.length c) q.length (q.map fun r => ptr (nd r))
  obj : ∀ r, r < cnt p → w.heap[g.ob r]? = some (.cells #[.string ⟨#[]⟩, .int .u32 (r : Int), .int .i64 (r : Int)] (tyE p r) (0, 0))
  mem : ∀ r ∈ q, r < cnt p ∧ kindAt p r ≠ 3
  nodup : q.Nodup
  dpb : ∀ r ∈ q, 0 ≤ dp r ∧ dp r ≤ cnt p

/-- The blocks that the queue's methods turn. -/
def AtQ (n : Nat) (nd : Nat → Nat) (pq : Nat) (A : Option Addr) (b : Nat) : Prop := (∃ r, r < n ∧ b = nd r) ∨ b = pq ∨ ∃ a, A = some a ∧ a.block = b

/-- The keys by places. -/
def keyAt (p : List It) (dp : Nat → Int) (q : List Nat) (i : Nat) : Int := qkey p dp (q.getD i 0)

section
variable {p : List It} {B : Nat} {g : Gh} {nd : Nat → Nat} {mb : Bool → Nat → Option Nat} {ks : Bool → Nat → List Nat} {dp : Nat → Int} {pq : Nat} {A : Option Addr} {c : Nat} {q : List Nat} {w w' : World}

theorem Qu.gr (h : Qu p B g nd mb ks dp pq A c q w) (hg : Gr w w') : Qu p B g nd mb ks dp pq A c q w' where
  gs := by
    obtain ⟨ix, h1, h2⟩ := h.gs
    exact ⟨ix, h1.gr hg, h2⟩
  box := Fr.heap hg h.box id
  row := h.row.gr hg
  obj r hr := Fr.heap hg (h.obj r hr) id
  mem := h.mem
  nodup := h.nodup
  dpb := h.dpb

theorem Qu.cells (h : Qu p B g nd mb ks dp pq A c q w) (h0 : 0 < q.length) : ∃ gb o cur, A = some ⟨gb, o, none⟩ ∧ B ≤ gb ∧ w.heap[gb]? = some (.cells cur 83 (0, 0)) ∧ ∀ i r : Nat, q[i]? = some r → w.cell? ⟨gb, o + i, none⟩ = some (.pointer (some ⟨nd r, 0, none⟩)) := by
  obtain ⟨gb, o, cap, cur, he, hok, hg, hcap, hsz, hcell⟩ := h.row.at_ h0
  simp only [Value.slice.injEq] at he
  obtain ⟨rfl, -, rfl⟩ := he
  exact ⟨gb, o, cur, rfl, hok, hg, fun i r hi => hcell i _ (by simp [hi, ptr])⟩

theorem Qu.boxCell (h : Qu p B g nd mb ks dp pq A c q w) : w.cell? ⟨pq, 0, none⟩ = some (.slice A q.length c) := by rw [cell_row h.box]; rfl

theorem tyI_cases (p : List It) (r : Nat) : tyI p r = 111 ∨ tyI p r = 116 ∨ tyI p r = 102 := by unfold tyI; split; simp; split <;> simp
theorem kindAt_tyI (p : List It) (r : Nat) : tyI p r = 111 ↔ kindAt p r = 4 := by
  unfold tyI kindAt
  split
  · simp_all
  · split <;> simp_all

set_option maxRecDepth 100000 in
/-- 'Less(i, j)' -/
theorem Qu.less (h : Qu p B g nd mb ks dp pq A c q w) {i j : Nat} (hi : i < q.length) (hj : j < q.length) :
    Calls Tryz.prog 162 #[.slice A q.length c, .int .i64 i, .int .i64 j] w (fun e w' => e = .returned (.bool (decide (keyAt p dp q i < keyAt p dp q j))) ∧ Gr w w') := by
  obtain ⟨gb, o, cur, rfl, hB, hgb, hcell⟩ := h.cells (by omega)
  obtain ⟨r, hr⟩ := get_lt hi
  obtain ⟨s, hs⟩ := get_lt hj
  obtain ⟨ix, hgs, _⟩ := h.gs
  obtain ⟨hr1, hr2⟩ := h.mem r (List.mem_of_getElem? hr)
  obtain ⟨hs1, hs2⟩ := h.mem s (List.mem_of_getElem? hs)
  have er : keyAt p dp q i = qkey p dp r := by simp [keyAt, List.getD_eq_getElem?_getD, hr]
  have es : keyAt p dp q j = qkey p dp s := by simp [keyAt, List.getD_eq_getElem?_getD, hs]
  have x0 : w.cell? ⟨nd r, 0, none⟩ = some (.iface (tyI p r) (.pointer (some ⟨g.ob r, 0, none⟩))) := by rw [cell_row (hgs.node r hr1)]; rfl
  have y0 : w.cell? ⟨nd s, 0, none⟩ = some (.iface (tyI p s) (.pointer (some ⟨g.ob s, 0, none⟩))) := by rw [cell_row (hgs.node s hs1)]; rfl
  have x4 : w.cell? ⟨nd r, 4, none⟩ = some (.int .i64 (dp r)) := by rw [cell_row (hgs.node r hr1)]; rfl
  have y4 : w.cell? ⟨nd s, 4, none⟩ = some (.int .i64 (dp s)) := by rw [cell_row (hgs.node s hs1)]; rfl
  have ux : w.cell? ⟨g.ob r, 1, none⟩ = some (.int .u32 (r : Int)) := by rw [cell_row (h.obj r hr1)]; rfl
  have uy : w.cell? ⟨g.ob s, 1, none⟩ = some (.int .u32 (s : Int)) := by rw [cell_row (h.obj s hs1)]; rfl
  have br := h.dpb r (List.mem_of_getElem? hr)
  have bs := h.dpb s (List.mem_of_getElem? hs)
  rw [er, es]
  have fin : ∀ {b : Bool}, (b = true ↔ qkey p dp r < qkey p dp s) → ∀ (e : Ending) (w' : World), (e = .returned (.bool b) ∧ ∃ q, w' = w.drewN q) → e = .returned (.bool (decide (qkey p dp r < qkey p dp s))) ∧ Gr w w' := by
    rintro b hb e w' ⟨rfl, m, rfl⟩
    refine ⟨?_, (Gr.refl w).drewN m⟩
    congr 2
    rw [Bool.eq_iff_iff, hb]; simp
  have tr := kindAt_tyI p r
  have ts := kindAt_tyI p s
  by_cases hk : kindAt p r = 4 ↔ kindAt p s = 4
  · have hxy : (tyI p r = 111 ∧ tyI p s = 111) ∨ (¬ tyI p r = 111 ∧ ¬ tyI p s = 111) := by rw [tr, ts]; by_cases h4 : kindAt p r = 4 <;> simp_all
    rcases Int.lt_trichotomy (dp r) (dp s) with hd | hd | hd
    · exact (less_lt w gb o q.length c i j (nd r) (nd s) _ _ (g.ob r) (g.ob s) _ _ hi hj (hcell i r hr) (hcell j s hs) x0 y0 x4 y4 hxy hd).mono (fin ⟨fun _ => qkey_dp hr1 hk hd, fun _ => rfl⟩)
    · refine (less_eq w gb o q.length c i j (nd r) (nd s) _ _ (g.ob r) (g.ob s) _ r s hi hj (hcell i r hr) (hcell j s hs) x0 y0 x4 (hd ▸ y4) ux uy ?_).mono (fin ?_)
      · rcases hxy with hxy | hxy
        · exact .inl hxy
        · have h8 := tyI_cases p r
          have h9 := tyI_cases p s
          exact .inr ⟨by omega, by omega⟩
      · rw [qkey_num hk hd]; simp
    · exact (less_gt w gb o q.length c i j (nd r) (nd s) _ _ (g.ob r) (g.ob s) _ _ hi hj (hcell i r hr) (hcell j s hs) x0 y0 x4 y4 hxy hd).mono (fin ⟨fun h => by simp at h, fun h => by have := qkey_dp hs1 hk.symm hd; omega⟩)
  · have hne : (tyI p r = 111) ≠ (tyI p s = 111) := by rw [tr, ts]; exact fun e => hk (by rw [e])
    refine (less_consts w gb o q.length c i j (nd r) (nd s) _ _ (g.ob r) (g.ob s) hi hj (hcell i r hr) (hcell j s hs) x0 y0 hne).mono (fin ?_)
    rw [decide_eq_true_eq, tr]
    constructor
    · intro h4
      exact qkey_const hr1 br bs h4 (fun h5 => hk ⟨fun _ => h5, fun _ => h4⟩)
    · intro hlt
      apply Classical.byContradiction
      intro h4
      have h5 : kindAt p s = 4 := Classical.byContradiction fun h5 => hk ⟨fun h => absurd h h4, fun h => absurd h h5⟩
      have := qkey_const hs1 bs br h5 h4
      omega
end
end Go.Proofs.YtelfaljidgfphaaGreat
