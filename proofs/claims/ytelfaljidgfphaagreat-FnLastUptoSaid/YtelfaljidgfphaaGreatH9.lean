/-
  A node of the queue has one dependency less.
-/
import Derived.Test.YtelfaljidgfphaaGreatH8
import Derived.Test.YtelfaljidgfphaaGreatJ21
namespace Go.Proofs.YtelfaljidgfphaaGreat
open Go.RowKit

section
variable {p : List It} {B : Nat} {g : Gh} {nd : Nat → Nat} {mb : Bool → Nat → Option Nat} {ks : Bool → Nat → List Nat} {dp : Nat → Int} {pq : Nat} {A : Option Addr} {c : Nat} {q : List Nat} {w w' : World}

def decD (dp : Nat → Int) (r : Nat) : Nat → Int := fun i => if i = r then dp r - 1 else dp i

/-- 'p.ndeps--' -/
theorem Qu.dec (h : Qu p B g nd mb ks dp pq A c q w) {r : Nat} (hr : r < cnt p) (h1 : r ∈ q → 1 ≤ dp r) :
    Qu p B g nd mb ks (decD dp r) pq A c q (w.setCell ⟨nd r, 4, none⟩ (.int .i64 (dp r - 1))) ∧ Fr (AtQ (cnt p) nd pq A) w (w.setCell ⟨nd r, 4, none⟩ (.int .i64 (dp r - 1))) := by
  have hf := fr_set w (nd r) 4 (.int .i64 (dp r - 1))
  obtain ⟨hp1, hp2⟩ := h.nodeNe hr
  refine ⟨?_, hf.mono fun b _ e => .inl ⟨r, hr, e⟩⟩
  exact {
    gs := by
      obtain ⟨ix, hgs, h2, h3⟩ := h.gs
      exact ⟨ix, hgs.setD hr _, h2, h3⟩
    box := hf.heap h.box hp1
    row := h.row.fr hf (fun b hb e => by
      obtain ⟨cur, hc⟩ := h.row.row hb
      obtain ⟨ix, hgs, _⟩ := h.gs
      exact ne_cells hc (hgs.node r hr) (by decide) e)
    obj := fun t ht => hf.heap (h.obj t ht) (hp2 t ht)
    mem := h.mem
    nodup := h.nodup
    dpb := fun t ht => by
      unfold decD
      have := h.dpb t ht
      split
      · rename_i e; subst e; have := h1 ht; omega
      · exact this }

/-- Where a node of the queue stands. -/
theorem Qu.place (h : Qu p B g nd mb ks dp pq A c q w) {r : Nat} (hr : r ∈ q) : ∃ j : Nat, j < q.length ∧ q[j]? = some r ∧ w.cell? ⟨nd r, 3, none⟩ = some (.int .i64 (j : Int)) := by
  obtain ⟨j, hj, he⟩ := List.mem_iff_getElem.1 hr
  obtain ⟨ix, hgs, h2, _⟩ := h.gs
  have hjr : q[j]? = some r := by simp [hj, he]
  refine ⟨j, hj, hjr, ?_⟩
  rw [cell_row (hgs.node r (h.mem r hr).1), ← h2 j r hjr]; rfl
theorem Qu.gone (h : Qu p B g nd mb ks dp pq A c q w) {r : Nat} (hr : r ∉ q) (h1 : r < cnt p) (h3 : kindAt p r ≠ 3) : w.cell? ⟨nd r, 3, none⟩ = some (.int .i64 (-1)) := by
  obtain ⟨ix, hgs, _, h2⟩ := h.gs
  rw [cell_row (hgs.node r h1), ← h2 r h1 h3 hr]; rfl
theorem Qu.deps (h : Qu p B g nd mb ks dp pq A c q w) {r : Nat} (h1 : r < cnt p) : w.cell? ⟨nd r, 4, none⟩ = some (.int .i64 (dp r)) ∧ (∀ i, w.frozen? ⟨nd r, i, none⟩ = false) ∧ w.cell? ⟨nd r, 0, none⟩ = some (g.enc p r) ∧ w.cell? ⟨nd r, 1, none⟩ = some (.map (mb false r)) := by
  obtain ⟨ix, hgs, _⟩ := h.gs
  exact ⟨by rw [cell_row (hgs.node r h1)]; rfl, frozen_row (hgs.node r h1), by rw [cell_row (hgs.node r h1)]; rfl, by rw [cell_row (hgs.node r h1)]; rfl⟩

theorem qkey_dec (r s : Nat) : qkey p (decD dp r) s = if s = r then qkey p dp s - ((cnt p : Int) + 1) else qkey p dp s := by
  unfold qkey decD
  by_cases e : s = r
  · subst e
    simp only [if_true]
    rw [Int.sub_mul, Int.one_mul]
    omega
  · simp only [if_neg e]

/-- The row is a heap but for the node that has become less. -/
theorem heap_dec (hh : HeapF 0 q.length (keyAt p dp q)) (hd : q.Nodup) {r j : Nat} (hj : q[j]? = some r) :
    UpH q.length j (keyAt p (decD dp r) q) ∧ ∀ k, 0 < k → k < q.length → (k - 1) / 2 = j → keyAt p (decD dp r) q j ≤ keyAt p (decD dp r) q k := by
  have hjl := (List.getElem?_eq_some_iff.1 hj).1
  have ej : keyAt p (decD dp r) q j = keyAt p dp q j - ((cnt p : Int) + 1) := by
    unfold keyAt
    rw [qkey_dec, List.getD_eq_getElem?_getD, hj]; simp
  have eo : ∀ k, k < q.length → k ≠ j → keyAt p (decD dp r) q k = keyAt p dp q k := fun k hk hne => by
    unfold keyAt
    rw [qkey_dec, if_neg]
    intro e
    have h1 : q[k]? = some r := by rw [List.getD_eq_getElem?_getD] at e; simp [hk] at e; simp [hk, e]
    obtain ⟨ha1, ha2⟩ := List.getElem?_eq_some_iff.1 hj
    obtain ⟨hb1, hb2⟩ := List.getElem?_eq_some_iff.1 h1
    exact hne ((List.getElem_inj hd).1 (hb2.trans ha2.symm))
  refine ⟨UpH.fix hh (by rw [ej]; omega) eo, fun k hk0 hk hkj => ?_⟩
  have := hh k hk0 hk (Nat.zero_le _)
  rw [hkj] at this
  rw [ej, eo k hk (by omega)]
  omega
theorem heap_same (hh : HeapF 0 q.length (keyAt p dp q)) {r : Nat} (hr : r ∉ q) : HeapF 0 q.length (keyAt p (decD dp r) q) := by
  have eo : ∀ k, k < q.length → keyAt p (decD dp r) q k = keyAt p dp q k := fun k hk => by
    unfold keyAt
    rw [qkey_dec, if_neg]
    intro e
    exact hr (by rw [← e, List.getD_eq_getElem?_getD]; simp [hk])
  intro k hk0 hk hlo
  rw [eo k hk, eo _ (by omega)]
  exact hh k hk0 hk hlo
end

/-- The dependants of x are being told. -/
def PRel (p : List It) (B : Nat) (g : Gh) (nd : Nat → Nat) (mb : Bool → Nat → Option Nat) (ks : Bool → Nat → List Nat) (pq : Nat) (A : Option Addr) (c : Nat) (x it : Nat) (dp0 : Nat → Int) (q1 : List Nat) (w3 : World) (k : Nat) (wr : World) : Prop :=
  ∃ (rem : List Nat) (dp : Nat → Int) (q : List Nat), rem.length = k ∧ SIter wr it (mb false x) (fun i => ptr (nd i)) (cnt p) (ks false x) rem ∧ Qu p B g nd mb ks dp pq A c q wr ∧ HeapF 0 q.length (keyAt p dp q) ∧ q.Perm q1 ∧
    (∀ r, dp r = dp0 r - if r ∈ ks false x ∧ r ∉ rem then 1 else 0) ∧ Fr (fun b => AtQ (cnt p) nd pq A b ∨ b = it) w3 wr

section
variable {p : List It} {B : Nat} {g : Gh} {nd : Nat → Nat} {mb : Bool → Nat → Option Nat} {ks : Bool → Nat → List Nat} {dp : Nat → Int} {pq : Nat} {A : Option Addr} {c : Nat} {q : List Nat} {w w' : World}

/-- What the queue's methods turn are rows of these three kinds. -/
theorem Qu.atq (h : Qu p B g nd mb ks dp pq A c q w) {b : Nat} (hb : AtQ (cnt p) nd pq A b) : ∃ cur t, w.heap[b]? = some (.cells cur t (0, 0)) ∧ (t = 89 ∨ t = 125 ∨ t = 83) := by
  obtain ⟨ix, hgs, _⟩ := h.gs
  rcases hb with ⟨r, hr, rfl⟩ | rfl | ⟨a, rfl, rfl⟩
  · exact ⟨_, _, hgs.node r hr, .inl rfl⟩
  · exact ⟨_, _, h.box, .inr (.inl rfl)⟩
  · obtain ⟨cur, hc⟩ := h.row.row (b := a.block) rfl
    exact ⟨_, _, hc, .inr (.inr rfl)⟩
theorem Qu.atNe (h : Qu p B g nd mb ks dp pq A c q w) {b : Nat} {cur : Array Value} {t : Nat} {f : Nat × Nat} (hb : w.heap[b]? = some (.cells cur t f)) (ht : t ≠ 89 ∧ t ≠ 125 ∧ t ≠ 83) : ¬ AtQ (cnt p) nd pq A b := fun ha => by
  obtain ⟨cur', t', h1, h2⟩ := h.atq ha
  rw [hb] at h1
  injection h1 with h1
  injection h1 with h3 h4 h5
  subst h4
  rcases h2 with e | e | e
  · exact ht.1 e
  · exact ht.2.1 e
  · exact ht.2.2 e
theorem Qu.atNeMap (h : Qu p B g nd mb ks dp pq A c q w) {b : Nat} {enc : Nat → Value} {n : Nat} {l : List Nat} {val : Nat → Value} (hb : NMap w b enc n l val) : ¬ AtQ (cnt p) nd pq A b := fun ha => by
  obtain ⟨cur', t', h1, h2⟩ := h.atq ha
  exact hb.ne h1 rfl
theorem Qu.atNeIter (h : Qu p B g nd mb ks dp pq A c q w) {b : Nat} (hb : ∃ a b' c d, w.heap[b]? = some (.mapIter a b' c d)) : ¬ AtQ (cnt p) nd pq A b := fun ha => by
  obtain ⟨cur', t', h1, h2⟩ := h.atq ha
  obtain ⟨a, b', c', d, h3⟩ := hb
  rw [h1] at h3
  cases h3
theorem Qu.setAt (h : Qu p B g nd mb ks dp pq A c q w) {cc : Bool} {x b : Nat} (hx : x < cnt p) (hb : mb cc x = some b) : ¬ AtQ (cnt p) nd pq A b := by
  obtain ⟨ix, hgs, _⟩ := h.gs
  exact h.atNeMap (hgs.set cc x b hx hb).1

theorem SIter.atQ {it : Nat} {enc : Nat → Value} {n x : Nat} {cc : Bool} {l rem : List Nat} (h : SIter w it (mb cc x) enc n l rem) (hq : Qu p B g nd mb ks dp pq A c q w) (hx : x < cnt p) (hf : Fr (AtQ (cnt p) nd pq A) w w') : SIter w' it (mb cc x) enc n l rem :=
  h.fr hf (hq.atNeIter h.iter) (fun _ hb => hq.setAt hx hb)

/-- An iterator moves on. -/
theorem Qu.iter (h : Qu p B g nd mb ks dp pq A c q w) {it : Nat} (hi : ∃ a b' c d, w.heap[it]? = some (.mapIter a b' c d)) (hf : Fr (fun b => b = it) w w') : Qu p B g nd mb ks dp pq A c q w' where
  gs := by
    obtain ⟨ix, h1, h2⟩ := h.gs
    refine ⟨ix, h1.fr hf (fun r hr e => h1.atNe hi (c := true) hr (.inl e.symm)) (fun cc r b hr hb e => h1.atNe hi hr (.inr (e ▸ hb))), h2⟩
  box := hf.heap h.box (fun e => by obtain ⟨_, _, _, _, h3⟩ := hi; rw [← e, h.box] at h3; cases h3)
  row := h.row.fr hf (fun b hb e => by
    obtain ⟨cur, hc⟩ := h.row.row hb
    obtain ⟨_, _, _, _, h3⟩ := hi
    rw [← e, hc] at h3; cases h3)
  obj r hr := hf.heap (h.obj r hr) (fun e => by obtain ⟨_, _, _, _, h3⟩ := hi; rw [← e, h.obj r hr] at h3; cases h3)
  mem := h.mem
  nodup := h.nodup
  dpb := h.dpb
end
end Go.Proofs.YtelfaljidgfphaaGreat
