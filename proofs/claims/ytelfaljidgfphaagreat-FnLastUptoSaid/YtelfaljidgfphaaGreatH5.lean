/-
  The queue's Swap and Pop.
-/
import Derived.Test.YtelfaljidgfphaaGreatH4
namespace Go.Proofs.YtelfaljidgfphaaGreat
open Go.RowKit

theorem fr_two (w : World) (b i j : Nat) (u v : Value) : Fr (fun k => k = b) w ((w.setCell ⟨b, i, none⟩ u).setCell ⟨b, j, none⟩ v) := (fr_set w _ _ _).trans (fr_set _ _ _ _)
theorem cell_set_other {w : World} {b i j : Nat} {u v : Value} (hc : w.cell? ⟨b, j, none⟩ = some u) (h : i ≠ j) : (w.setCell ⟨b, i, none⟩ v).cell? ⟨b, j, none⟩ = some u := (World.cell?_setCell_other _ _ _ _ (by intro e; injection e; omega)).trans hc
theorem cell_set_far {w : World} {b b' i j : Nat} {u v : Value} (hc : w.cell? ⟨b', j, none⟩ = some u) (h : b ≠ b') : (w.setCell ⟨b, i, none⟩ v).cell? ⟨b', j, none⟩ = some u := (World.cell?_setCell_other _ _ _ _ (by intro e; injection e; omega)).trans hc
theorem cell_set_same {w : World} {b i : Nat} {u v : Value} (hc : w.cell? ⟨b, i, none⟩ = some u) : (w.setCell ⟨b, i, none⟩ v).cell? ⟨b, i, none⟩ = some v := World.cell?_setCell_same' _ _ _ (by rw [hc]; rfl)

theorem swl_map {α : Type} (f : Nat → α) {q : List Nat} {i j r s : Nat} (hr : q[i]? = some r) (hs : q[j]? = some s) : (swl q i j).map f = ((q.map f).set i (f s)).set j (f r) := by
  simp [swl, List.getD_eq_getElem?_getD, hr, hs, List.map_set]

theorem swl_get {q : List Nat} {i j r s k : Nat} (hr : q[i]? = some r) (hs : q[j]? = some s) : (swl q i j)[k]? = if k = j then some r else if k = i then some s else q[k]? := by
  have hi := (List.getElem?_eq_some_iff.1 hr).1
  have hj := (List.getElem?_eq_some_iff.1 hs).1
  simp only [swl, List.getD_eq_getElem?_getD, hr, hs, Option.getD_some, List.getElem?_set, List.length_set]
  by_cases e1 : j = k
  · subst e1; simp [hj]
  · have e1' : ¬ k = j := fun e => e1 e.symm
    by_cases e2 : i = k
    · subst e2; simp [hi, e1, e1']
    · have e2' : ¬ k = i := fun e => e2 e.symm
      simp [e1, e2, e1', e2']

section
variable {p : List It} {B : Nat} {g : Gh} {nd : Nat → Nat} {mb : Bool → Nat → Option Nat} {ks : Bool → Nat → List Nat} {dp : Nat → Int} {pq : Nat} {A : Option Addr} {c : Nat} {q : List Nat} {w w' : World}

theorem Qu.rowNe (h : Qu p B g nd mb ks dp pq A c q w) {gb : Nat} {cur : Array Value} (hgb : w.heap[gb]? = some (.cells cur 83 (0, 0))) : (∀ r, r < cnt p → nd r ≠ gb) ∧ pq ≠ gb ∧ (∀ r, r < cnt p → g.ob r ≠ gb) ∧ (∀ c r b, r < cnt p → mb c r = some b → b ≠ gb) := by
  obtain ⟨ix, hgs, _⟩ := h.gs
  refine ⟨fun r hr => ne_cells (hgs.node r hr) hgb (by decide), ne_cells h.box hgb (by decide), fun r hr => ne_cells (h.obj r hr) hgb ?_, fun c r b hr hb => (hgs.set c r b hr hb).1.ne hgb⟩
  rcases tyE_cases p r with e | e | e <;> rw [e] <;> decide
theorem Qu.nodeNe (h : Qu p B g nd mb ks dp pq A c q w) {r : Nat} (hr : r < cnt p) : pq ≠ nd r ∧ (∀ s, s < cnt p → g.ob s ≠ nd r) := by
  obtain ⟨ix, hgs, _⟩ := h.gs
  refine ⟨ne_cells h.box (hgs.node r hr) (by decide), fun s hs => ne_cells (h.obj s hs) (hgs.node r hr) ?_⟩
  rcases tyE_cases p s with e | e | e <;> rw [e] <;> decide

/-- The world behind an exchange. -/
theorem Qu.swapped {gb o : Nat} (h : Qu p B g nd mb ks dp pq (some ⟨gb, o, none⟩) c q w) {cur : Array Value} (hgb : w.heap[gb]? = some (.cells cur 83 (0, 0))) {i j r s : Nat} (hr : q[i]? = some r) (hs : q[j]? = some s) :
    Qu p B g nd mb ks dp pq (some ⟨gb, o, none⟩) c (swl q i j) ((((w.setCell ⟨gb, o + i, none⟩ (ptr (nd s))).setCell ⟨gb, o + j, none⟩ (ptr (nd r))).setCell ⟨nd r, 3, none⟩ (.int .i64 (j : Int))).setCell ⟨nd s, 3, none⟩ (.int .i64 (i : Int))) ∧
    Fr (AtQ (cnt p) nd pq (some ⟨gb, o, none⟩)) w ((((w.setCell ⟨gb, o + i, none⟩ (ptr (nd s))).setCell ⟨gb, o + j, none⟩ (ptr (nd r))).setCell ⟨nd r, 3, none⟩ (.int .i64 (j : Int))).setCell ⟨nd s, 3, none⟩ (.int .i64 (i : Int))) := by
  obtain ⟨hn1, hn2, hn3, hn4⟩ := h.rowNe hgb
  obtain ⟨hr1, hr2⟩ := h.mem r (List.mem_of_getElem? hr)
  obtain ⟨hs1, hs2⟩ := h.mem s (List.mem_of_getElem? hs)
  have hi := (List.getElem?_eq_some_iff.1 hr).1
  have hj := (List.getElem?_eq_some_iff.1 hs).1
  obtain ⟨ix, hgs, hix, hout⟩ := h.gs
  have hf2 := fr_two w gb (o + i) (o + j) (ptr (nd s)) (ptr (nd r))
  have hgs2 := ((hgs.fr hf2 (fun r hr => hn1 r hr) (fun c r b hr hb => hn4 c r b hr hb)).setI hr1 (j : Int)).setI hs1 (i : Int)
  generalize hw2 : (w.setCell ⟨gb, o + i, none⟩ (ptr (nd s))).setCell ⟨gb, o + j, none⟩ (ptr (nd r)) = w2 at *
  have hf3 := fr_set w2 (nd r) 3 (.int .i64 (j : Int))
  have hf4 := fr_set (w2.setCell ⟨nd r, 3, none⟩ (.int .i64 (j : Int))) (nd s) 3 (.int .i64 (i : Int))
  have hfr : Fr (AtQ (cnt p) nd pq (some ⟨gb, o, none⟩)) w ((w2.setCell ⟨nd r, 3, none⟩ (.int .i64 (j : Int))).setCell ⟨nd s, 3, none⟩ (.int .i64 (i : Int))) :=
    ((hf2.mono (fun b _ e => .inr (.inr ⟨_, rfl, e.symm⟩))).trans (hf3.mono (fun b _ e => .inl ⟨r, hr1, e⟩))).trans (hf4.mono (fun b _ e => .inl ⟨s, hs1, e⟩))
  have hinj : ∀ a b : Nat, ∀ x, q[a]? = some x → q[b]? = some x → a = b := fun a b x ha hb => by
    obtain ⟨ha1, ha2⟩ := List.getElem?_eq_some_iff.1 ha
    obtain ⟨hb1, hb2⟩ := List.getElem?_eq_some_iff.1 hb
    exact (List.getElem_inj h.nodup).1 (ha2.trans hb2.symm)
  have hmem : ∀ x, x ∈ swl q i j ↔ x ∈ q := fun x => (swl_perm hi hj).mem_iff
  refine ⟨?_, hfr⟩
  exact {
    gs := by
      refine ⟨_, hgs2, fun k t hk => ?_, fun t ht ht3 htq => ?_⟩
      · rw [swl_get hr hs] at hk
        by_cases e1 : k = j
        · subst e1
          rw [if_pos rfl] at hk
          cases hk
          by_cases e2 : r = s
          · subst e2
            rw [if_pos rfl]
            have := hinj _ _ _ hr hs
            omega
          · rw [if_neg e2, if_pos rfl]
        · rw [if_neg e1] at hk
          by_cases e2 : k = i
          · subst e2
            rw [if_pos rfl] at hk
            cases hk
            rw [if_pos rfl]
          · rw [if_neg e2] at hk
            have e3 : t ≠ s := fun e => e1 (hinj _ _ _ hk (e ▸ hs))
            have e4 : t ≠ r := fun e => e2 (hinj _ _ _ hk (e ▸ hr))
            rw [if_neg e3, if_neg e4]
            exact hix k t hk
      · rw [hmem] at htq
        have e3 : t ≠ s := fun e => htq (e ▸ List.mem_of_getElem? hs)
        have e4 : t ≠ r := fun e => htq (e ▸ List.mem_of_getElem? hr)
        rw [if_neg e3, if_neg e4]
        exact hout t ht ht3 htq
    box := by
      rw [swl_length]
      exact hf4.heap (hf3.heap (hf2.heap h.box hn2) (h.nodeNe hr1).1) (h.nodeNe hs1).1
    row := by
      rw [swl_length, swl_map _ hr hs]
      have h1 := (h.row.set rfl (show i < q.length * 1 by omega) (ptr (nd s))).set rfl (show j < q.length * 1 by omega) (ptr (nd r))
      rw [hw2] at h1
      have hb : ∀ k, (Value.slice (some ⟨gb, o, none⟩) q.length c).ownBlock = some k → k = gb := fun k e => by simp [Value.ownBlock] at e; exact e.symm
      exact (h1.fr hf3 (fun k hk e => by have := hb k hk; exact hn1 r hr1 (by omega))).fr hf4 (fun k hk e => by have := hb k hk; exact hn1 s hs1 (by omega))
    obj := fun t ht => hf4.heap (hf3.heap (hf2.heap (h.obj t ht) (hn3 t ht)) ((h.nodeNe hr1).2 t ht)) ((h.nodeNe hs1).2 t ht)
    mem := fun t ht => h.mem t ((hmem t).1 ht)
    nodup := (swl_perm hi hj).nodup_iff.2 h.nodup
    dpb := fun t ht => h.dpb t ((hmem t).1 ht) }

set_option maxHeartbeats 1000000 in
set_option maxRecDepth 100000 in
/-- 'Swap(i, j)' -/
theorem Qu.swap (h : Qu p B g nd mb ks dp pq A c q w) {i j : Nat} (hi : i < q.length) (hj : j < q.length) :
    Calls Tryz.prog 163 #[.slice A q.length c, .int .i64 i, .int .i64 j] w (fun e w' => e = .returned (.tuple #[]) ∧ Qu p B g nd mb ks dp pq A c (swl q i j) w' ∧ Fr (AtQ (cnt p) nd pq A) w w') := by
  obtain ⟨gb, o, cur, rfl, hB, hgb, hcell⟩ := h.cells (by omega)
  obtain ⟨r, hr⟩ := get_lt hi
  obtain ⟨s, hs⟩ := get_lt hj
  obtain ⟨hr1, hr2⟩ := h.mem r (List.mem_of_getElem? hr)
  obtain ⟨hs1, hs2⟩ := h.mem s (List.mem_of_getElem? hs)
  obtain ⟨ix, hgs, hix, _⟩ := h.gs
  obtain ⟨hn1, hn2, hn3, hn4⟩ := h.rowNe hgb
  have fin := fun k => (h.gr ((Gr.refl w).drewN k)).swapped (w := w.drewN k) hgb hr hs
  have fin2 : ∀ k w', Fr (AtQ (cnt p) nd pq (some ⟨gb, o, none⟩)) (w.drewN k) w' → Fr (AtQ (cnt p) nd pq (some ⟨gb, o, none⟩)) w w' := fun k w' hf => ⟨hf.os, hf.tape, hf.output, hf.size, hf.block⟩
  have ai := hcell i r hr
  have aj := hcell j s hs
  have hrow := frozen_row hgb
  have x3 : w.cell? ⟨nd r, 3, none⟩ = some (.int .i64 (ix r)) := by rw [cell_row (hgs.node r hr1)]; rfl
  have y3 : w.cell? ⟨nd s, 3, none⟩ = some (.int .i64 (ix s)) := by rw [cell_row (hgs.node s hs1)]; rfl
  have xf := frozen_row (hgs.node r hr1)
  have yf := frozen_row (hgs.node s hs1)
  have hi' : (i : Int) < (q.length : Int) := by omega
  have hj' : (j : Int) < (q.length : Int) := by omega
  have hne1 := hn1 r hr1
  have hne2 := hn1 s hs1
  have F1 : ∀ k v, ∃ u, ((w.drewN k).setCell ⟨gb, o + i, none⟩ v).cell? ⟨gb, o + j, none⟩ = some u := fun k v => by
    by_cases e : i = j
    · subst e; exact ⟨v, cell_set_same (u := .pointer (some ⟨nd r, 0, none⟩)) ai⟩
    · exact ⟨_, cell_set_other aj (by omega)⟩
  have F2 : ∀ k v v', (((w.drewN k).setCell ⟨gb, o + i, none⟩ v).setCell ⟨gb, o + j, none⟩ v').cell? ⟨nd r, 3, none⟩ = some (.int .i64 (ix r)) := fun k v v' => cell_set_far (cell_set_far x3 (fun e => hne1 e.symm)) (fun e => hne1 e.symm)
  have F3 : ∀ k v v' v'', ∃ u, ((((w.drewN k).setCell ⟨gb, o + i, none⟩ v).setCell ⟨gb, o + j, none⟩ v').setCell ⟨nd r, 3, none⟩ v'').cell? ⟨nd s, 3, none⟩ = some u := fun k v v' v'' => by
    by_cases e : nd r = nd s
    · rw [← e]; exact ⟨v'', cell_set_same (F2 k v v')⟩
    · exact ⟨_, cell_set_far (cell_set_far (cell_set_far y3 (fun e => hne2 e.symm)) (fun e => hne2 e.symm)) e⟩
  obtain ⟨f1, hf1⟩ : ∃ f : Nat → Value → Value, ∀ k v, ((w.drewN k).setCell ⟨gb, o + i, none⟩ v).cell? ⟨gb, o + j, none⟩ = some (f k v) := ⟨fun k v => Classical.choose (F1 k v), fun k v => Classical.choose_spec (F1 k v)⟩
  obtain ⟨f3, hf3⟩ : ∃ f : Nat → Value → Value → Value → Value, ∀ k v v' v'', ((((w.drewN k).setCell ⟨gb, o + i, none⟩ v).setCell ⟨gb, o + j, none⟩ v').setCell ⟨nd r, 3, none⟩ v'').cell? ⟨nd s, 3, none⟩ = some (f k v v' v'') := ⟨fun k v v' v'' => Classical.choose (F3 k v v' v''), fun k v v' v'' => Classical.choose_spec (F3 k v v' v'')⟩
  clear F1 F3 hgs h hcell
  go_enter Tryz.func163, Tryz.ntmps163
  go_wp2
  go_quiet (fail)
  go_wp2
  refine bodyPost_end0' rfl rfl ?_
  exact ⟨rfl, (fin _).1, fin2 _ _ (fin _).2⟩
end
end Go.Proofs.YtelfaljidgfphaaGreat
