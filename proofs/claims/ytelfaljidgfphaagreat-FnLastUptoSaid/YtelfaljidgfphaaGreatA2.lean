/-
  Slices as this seat's proofs tell them: one that is read ('Arr'), one of the call's own that is appended to and stored into ('Own').
-/
import Derived.Test.YtelfaljidgfphaaGreatA1
namespace Go.Proofs.YtelfaljidgfphaaGreat
open Go.RowKit

/-- v is a slice of n elements of sz cells each; its cells hold cs; where there is one, they lie in a block that meets ok. -/
def Arr (w : World) (ok : Nat → Prop) (v : Value) (n sz : Nat) (cs : List Value) : Prop :=
  cs.length = n * sz ∧ ∃ A c, v = .slice A n c ∧ n ≤ c ∧ (n = 0 ∨ ∃ b o, A = some ⟨b, o, none⟩ ∧ ok b ∧ b < w.heap.size ∧ ∀ j u, cs[j]? = some u → w.cell? ⟨b, o + j, none⟩ = some u)

/-- v is a slice of the call's own: nil, or its cells lie in a row that is not frozen, with room up to its capacity. -/
def Own (w : World) (ok : Nat → Prop) (e sz : Nat) (v : Value) (n : Nat) (cs : List Value) : Prop :=
  cs.length = n * sz ∧ ((v = .slice none 0 0 ∧ n = 0) ∨ ∃ g o cap cur, v = .slice (some ⟨g, o, none⟩) n cap ∧ ok g ∧ w.heap[g]? = some (.cells cur e (0, 0)) ∧ n ≤ cap ∧ cap ≤ maxLen ∧ o + cap * sz ≤ cur.size ∧ (cur.toList.drop o).take (n * sz) = cs)

theorem cell_row {w : World} {g : Nat} {cur : Array Value} {e : Nat} {fr : Nat × Nat} (h : w.heap[g]? = some (.cells cur e fr)) (i : Nat) : w.cell? ⟨g, i, none⟩ = cur[i]? :=
  cell_of_row w g i cur e fr h

theorem frozen_row {w : World} {g : Nat} {cur : Array Value} {e : Nat} (h : w.heap[g]? = some (.cells cur e (0, 0))) (i : Nat) : w.frozen? ⟨g, i, none⟩ = false := by
  simp [World.frozen?, h]

section
variable {w w' : World} {ok ok' S : Nat → Prop} {e sz n : Nat} {v : Value} {cs : List Value}

theorem Arr.mono (h : Arr w ok v n sz cs) (hk : ∀ b, b < w.heap.size → ok b → ok' b) : Arr w ok' v n sz cs := by
  obtain ⟨h1, A, c, h2, h3, h4⟩ := h
  refine ⟨h1, A, c, h2, h3, ?_⟩
  rcases h4 with h4 | ⟨b, o, h5, h6, hl, h7⟩
  · exact .inl h4
  · exact .inr ⟨b, o, h5, hk b hl h6, hl, h7⟩

theorem Arr.fr (h : Arr w ok v n sz cs) (hf : Fr S w w') (hs : ∀ b, ok b → ¬ S b) : Arr w' ok v n sz cs := by
  obtain ⟨h1, A, c, h2, h3, h4⟩ := h
  refine ⟨h1, A, c, h2, h3, ?_⟩
  rcases h4 with h4 | ⟨b, o, h5, h6, hl, h7⟩
  · exact .inl h4
  · exact .inr ⟨b, o, h5, h6, Nat.lt_of_lt_of_le hl hf.size, fun j u hu => hf.cell (h7 j u hu) (hs b h6)⟩

theorem Arr.nil (w : World) (ok : Nat → Prop) (sz : Nat) : Arr w ok (.slice none 0 0) 0 sz [] := ⟨by simp, none, 0, rfl, Nat.le_refl _, .inl rfl⟩

theorem Arr.len (h : Arr w ok v n sz cs) : cs.length = n * sz := h.1

/-- Its value, where it holds an element. -/
theorem Arr.at_ (h : Arr w ok v n sz cs) (hn : 0 < n) : ∃ b o c, v = .slice (some ⟨b, o, none⟩) n c ∧ n ≤ c ∧ ok b ∧ b < w.heap.size ∧ ∀ j u, cs[j]? = some u → w.cell? ⟨b, o + j, none⟩ = some u := by
  obtain ⟨h1, A, c, h2, h3, h4⟩ := h
  rcases h4 with h4 | ⟨b, o, rfl, h6, hl, h7⟩
  · omega
  · exact ⟨b, o, c, h2, h3, h6, hl, h7⟩

theorem Arr.first {P : Program} (h : Arr w ok v n sz cs) : (Builtin.firstCells sz n v).run P w = .ok cs.toArray w ∧ (Builtin.lenOf v).run P w = .ok n w := by
  obtain ⟨h1, A, c, rfl, h3, h4⟩ := h
  refine ⟨?_, rfl⟩
  rcases h4 with rfl | ⟨b, o, rfl, h6, hl, h7⟩
  · have : cs = [] := List.eq_nil_of_length_eq_zero (by simpa using h1)
    subst this
    cases A with
    | none => simp [Builtin.firstCells]
    | some a => exact run_firstCells_some w sz 0 a 0 c [] (by simp) (by simp)
  · refine run_firstCells_some w sz n _ n c cs h1 fun j u hu => ?_
    rw [Addr.add_lit]
    exact h7 j u hu

theorem Own.nil (w : World) (ok : Nat → Prop) (e sz : Nat) : Own w ok e sz (.slice none 0 0) 0 [] := ⟨by simp, .inl ⟨rfl, rfl⟩⟩

theorem Own.arr (h : Own w ok e sz v n cs) : Arr w ok v n sz cs := by
  obtain ⟨h1, h2⟩ := h
  refine ⟨h1, ?_⟩
  rcases h2 with ⟨rfl, rfl⟩ | ⟨g, o, cap, cur, rfl, hok, hg, h3, _, h4, h5⟩
  · exact ⟨none, 0, rfl, Nat.le_refl _, .inl rfl⟩
  · refine ⟨some ⟨g, o, none⟩, cap, rfl, h3, .inr ⟨g, o, rfl, hok, heap_lt hg, fun j u hu => ?_⟩⟩
    rw [cell_row hg]
    rw [← h5, List.getElem?_take] at hu
    split at hu
    · simpa using hu
    · cases hu

theorem Own.fr (h : Own w ok e sz v n cs) (hf : Fr S w w') (hs : ∀ k, v.ownBlock = some k → ¬ S k) : Own w' ok e sz v n cs := by
  obtain ⟨h1, h2⟩ := h
  refine ⟨h1, ?_⟩
  rcases h2 with h2 | ⟨g, o, cap, cur, rfl, hok, hg, h3⟩
  · exact .inl h2
  · exact .inr ⟨g, o, cap, cur, rfl, hok, hf.heap hg (hs g rfl), h3⟩

theorem Own.mono (h : Own w ok e sz v n cs) (hk : ∀ b, v.ownBlock = some b → b < w.heap.size → ok b → ok' b) : Own w ok' e sz v n cs := by
  obtain ⟨h1, h2⟩ := h
  refine ⟨h1, ?_⟩
  rcases h2 with h2 | ⟨g, o, cap, cur, rfl, hok, hg, h3⟩
  · exact .inl h2
  · exact .inr ⟨g, o, cap, cur, rfl, hk g rfl (heap_lt hg) hok, hg, h3⟩

theorem Own.blk (h : Own w ok e sz v n cs) : ∀ k, v.ownBlock = some k → ok k ∧ k < w.heap.size := by
  intro k hk
  obtain ⟨h1, h2⟩ := h
  rcases h2 with ⟨rfl, _⟩ | ⟨g, o, cap, cur, rfl, hok, hg, h3⟩
  · cases hk
  · cases hk; exact ⟨hok, heap_lt hg⟩

theorem Own.at_ (h : Own w ok e sz v n cs) (hn : 0 < n) : ∃ g o cap cur, v = .slice (some ⟨g, o, none⟩) n cap ∧ ok g ∧ w.heap[g]? = some (.cells cur e (0, 0)) ∧ n ≤ cap ∧ o + cap * sz ≤ cur.size ∧ ∀ j u, cs[j]? = some u → w.cell? ⟨g, o + j, none⟩ = some u := by
  have ha := h.arr
  obtain ⟨h1, h2⟩ := h
  rcases h2 with ⟨_, h2⟩ | ⟨g, o, cap, cur, rfl, hok, hg, h3, _, h4, h5⟩
  · omega
  · obtain ⟨b, o', c, he, _, _, _, hc⟩ := ha.at_ hn
    simp only [Value.slice.injEq, Option.some.injEq, Addr.mk.injEq, and_true, true_and] at he
    obtain ⟨⟨rfl, rfl⟩, rfl⟩ := he
    exact ⟨g, o, cap, cur, rfl, hok, hg, h3, h4, hc⟩

/-- A store into one of its cells. -/
theorem Own.set (h : Own w ok e sz v n cs) {g o c j : Nat} (hv : v = .slice (some ⟨g, o, none⟩) n c) (hj : j < n * sz) (u : Value) : Own (w.setCell ⟨g, o + j, none⟩ u) ok e sz v n (cs.set j u) := by
  obtain ⟨h1, h2⟩ := h
  refine ⟨by simpa using h1, ?_⟩
  rcases h2 with ⟨rfl, _⟩ | ⟨g', o', cap, cur, he, hok, hg, h3, h3', h4, h5⟩
  · cases hv
  · rw [hv] at he
    simp only [Value.slice.injEq, Option.some.injEq, Addr.mk.injEq, and_true, true_and] at he
    obtain ⟨⟨rfl, rfl⟩, rfl⟩ := he
    have hle : n * sz ≤ c * sz := Nat.mul_le_mul_right _ h3
    refine .inr ⟨g, o, c, cur.setIfInBounds (o + j) u, hv, hok, ?_, h3, h3', by simpa using h4, ?_⟩
    · simp [World.setCell, Array.getElem?_modify, hg]
    · rw [Array.toList_setIfInBounds, ← h5]
      apply List.ext_getElem?
      intro i
      rw [List.getElem?_take, List.getElem?_drop, List.getElem?_set, List.getElem?_set, List.getElem?_take, List.getElem?_drop]
      by_cases hi : i < n * sz
      · by_cases hij : j = i
        · subst hij
          have : o + j < cur.size := by omega
          simp [hj, this]
          omega
        · simp [hi, hij]
      · rw [if_neg hi, if_neg hi]
        by_cases hij : j = i
        · omega
        · simp [hij]

/-- A row that a call has just laid. -/
theorem Own.made (w : World) (cur : Array Value) (n cap : Nat) (hok : ok w.heap.size) (hn : n ≤ cap) (hm : cap ≤ maxLen) (hs : cur.size = cap * sz) :
    Own (w.alloc (.cells cur e)) ok e sz (.slice (some ⟨w.heap.size, 0, none⟩) n cap) n (cur.toList.take (n * sz)) := by
  have hle : n * sz ≤ cap * sz := Nat.mul_le_mul_right _ hn
  refine ⟨by simp; omega, .inr ⟨w.heap.size, 0, cap, cur, rfl, hok, heap_alloc_new w _, hn, hm, by omega, by simp⟩⟩

/-- 's = s[1:]' -/
theorem Own.tail {g o cap : Nat} {c0 : List Value} (h : Own w ok e 1 (.slice (some ⟨g, o, none⟩) (n + 1) cap) (n + 1) (c0 ++ cs)) (h0 : c0.length = 1) :
    Own w ok e 1 (.slice (some ⟨g, o + 1, none⟩) n (cap - 1)) n cs ∧ (cap = 1 → Own w ok e 1 (.slice (some ⟨g, o, none⟩) n 0) n cs) := by
  obtain ⟨h1, h2⟩ := h
  have hl : cs.length = n := by simp [h0] at h1; omega
  rcases h2 with ⟨h2, _⟩ | ⟨g', o', cap', cur, he, hok, hg, h3, h3', h4, h5⟩
  · cases h2
  · simp only [Value.slice.injEq, Option.some.injEq, Addr.mk.injEq, and_true, true_and] at he
    obtain ⟨⟨rfl, rfl⟩, rfl⟩ := he
    have hcs : (cur.toList.drop (o + 1)).take n = cs := by
      have h6 := congrArg (List.drop 1) h5
      rw [List.drop_take, List.drop_drop] at h6
      have h7 : (c0 ++ cs).drop 1 = cs := by rw [← h0]; exact List.drop_left
      rw [h7] at h6
      simpa [Nat.add_comm] using h6
    refine ⟨⟨by simpa using hl, .inr ⟨g, o + 1, cap - 1, cur, rfl, hok, hg, by omega, by omega, by omega, by simpa using hcs⟩⟩, fun hc => ?_⟩
    have hn : n = 0 := by omega
    subst hn
    have : cs = [] := List.eq_nil_of_length_eq_zero hl
    subst this
    exact ⟨by simp, .inr ⟨g, o, 0, cur, rfl, hok, hg, Nat.le_refl _, by omega, by omega, by simp⟩⟩
end

/-! ### append -/

/-- What append is told of a type: its row of the table. -/
structure ElemOk (P : Program) (e : TypeId) (z : Value) (sz bytes : Nat) : Prop where
  info : ∃ i : TypeInfo, P.info? e = some i ∧ i.zero = some z ∧ i.size = sz ∧ i.bytes = bytes
  cells : z.cells.size = sz
  pos : 0 < sz

theorem ElemOk.mk' {P : Program} {e : TypeId} {z : Value} {sz bytes : Nat} (h : (P.info? e).map (fun i => (i.zero, i.size, i.bytes)) = some (some z, sz, bytes)) (hc : z.cells.size = sz) (hp : 0 < sz) : ElemOk P e z sz bytes := by
  obtain ⟨i, hi, h1, h2, h3⟩ := info_parts h
  exact ⟨⟨i, hi, h1, h2, h3⟩, hc, hp⟩

theorem run_append {P : Program} {w : World} {ok okx : Nat → Prop} {t t' e e' ty : TypeId} {z : Value} {sz bytes : Nat} (E : ElemOk P e z sz bytes) (ht : P.underlying t = some (.slice e)) (ht' : P.underlying t' = some (.slice e'))
    {v x : Value} {n m : Nat} {cs news : List Value} (hown : Own w ok e sz v n cs) (hx : Arr w okx x m sz news) (h1 : ∀ u ∈ news, u.oneCell' = true)
    (h63 : n + m ≤ maxLen) (hbytes : (n + m) * bytes ≤ 140737488355328) (hok : ∀ k, w.heap.size ≤ k → ok k) :
    ∃ v' w', (Builtin.append_ #[t, t'] ty #[v, x]).run P w = .ok v' w' ∧ Own w' ok e sz v' (n + m) (cs ++ news) ∧ Fr (fun k => v.ownBlock = some k) w w' ∧
      (v' = .slice none 0 0 ↔ v = .slice none 0 0 ∧ m = 0) ∧ (∀ k, v'.ownBlock = some k → v.ownBlock = some k ∨ w.heap.size ≤ k) := by
  obtain ⟨⟨i, hi, hz, rfl, rfl⟩, hzs, hpos⟩ := E
  have hsmall : n + m ≤ 9223372036854775807 := by simp only [maxLen] at h63; omega
  have hlen : (cs ++ news).length = (n + m) * i.size := by rw [List.length_append, hown.1, hx.1, Nat.add_mul]
  have hxd : Arr w.drew okx x m i.size news := hx.fr (S := fun _ => False) (Fr.refl _ w).drew (fun _ _ h => h)
  have hf := (hx.first (P := P)).1
  have hfd := (hxd.first (P := P)).1
  have hlx := (hx.first (P := P)).2
  -- a new row
  have grown : ∀ (old : Nat), old < n + m →
      Own (w.drew.alloc (.cells (cs.toArray ++ news.toArray ++ Builtin.zeroCells z.cells (grownCap w (n + m) old e - (n + m))) e)) ok e i.size
        (.slice (some ⟨w.heap.size, 0, none⟩) (n + m) (grownCap w (n + m) old e)) (n + m) (cs ++ news) := by
    intro old ho
    have hge := grownCap_ge w (n + m) old e
    have hcm : grownCap w (n + m) old e ≤ maxLen := grownCap_le_maxLen w (n + m) old e h63
    refine ⟨hlen, .inr ⟨w.heap.size, 0, _, _, rfl, hok _ (Nat.le_refl _), heap_alloc_new w.drew _, hge, hcm, ?_, ?_⟩⟩
    · simp only [Array.size_append, List.size_toArray, size_zeroCells, hzs, hown.1, hx.1, ← Nat.add_mul, Nat.zero_add]
      exact Nat.le_of_eq (by congr 1; omega)
    · simp only [Array.toList_append, List.append_assoc, List.drop_zero]
      rw [← List.append_assoc, ← hlen]
      exact List.take_left
  have hfrn : ∀ o, Fr (fun k => v.ownBlock = some k) w (w.drew.alloc o) := fun o => (Fr.refl _ w).drew.alloc o
  rcases hown.2 with ⟨rfl, rfl⟩ | ⟨g, o, cap, cur, rfl, hbg, hg, hnc, hcm, hcs, htake⟩
  · have hx0 : cs = [] := List.eq_nil_of_length_eq_zero (by simpa using hown.1)
    subst hx0
    by_cases hm : m = 0
    · subst hm
      have hn : news = [] := List.eq_nil_of_length_eq_zero (by simpa using hx.1)
      subst hn
      refine ⟨.slice none 0 0, w, ?_, Own.nil w ok e i.size, Fr.refl _ w, by simp, by simp [Value.ownBlock]⟩
      simp [Builtin.append_, run_underlying ht, run_underlying ht', sizeOf, typeInfo, hi, hlx, hf]
    · have h63' : ¬ (9223372036854775807 < (m : Int)) := by omega
      have h48' : ¬ (281474976710656 < Builtin.nextslicecap m 0 * i.bytes) := by
        rw [nextslicecap_zero (by omega)]
        simp only [Nat.zero_add] at hbytes
        omega
      have hgr := grown 0 (by omega)
      simp only [Nat.zero_add, List.nil_append, Array.empty_append] at hgr ⊢
      refine ⟨_, _, ?_, hgr, hfrn _, by simp [hm], by simp [Value.ownBlock]⟩
      simp [Builtin.append_, run_underlying ht, run_underlying ht', sizeOf, typeInfo, zeroValue, hi, hz, hlx, hm, h63', h48', Question.forced, run_firstCells_none, hfd, newRow, grownCap]
  · by_cases hroom : n + m ≤ cap
    · have hle : (n + m) * i.size ≤ cap * i.size := Nat.mul_le_mul_right _ hroom
      have hfit : o + n * i.size + news.length ≤ cur.size := by rw [hx.1]; rw [Nat.add_mul] at hle; omega
      have hst := run_storeCells_at P g (o + n * i.size) e news 0 cur w hg (by simpa using hfit) h1
      simp only [Nat.add_zero] at hst
      refine ⟨.slice (some ⟨g, o, none⟩) (n + m) cap, w.setRow g (cur.toList.take (o + n * i.size) ++ news ++ cur.toList.drop (o + n * i.size + news.length)).toArray, ?_,
        ⟨hlen, .inr ⟨g, o, cap, _, rfl, hbg, setRow_heap w g cur _ e _ hg, hroom, hcm, ?_, ?_⟩⟩, ⟨rfl, rfl, rfl, by simp, fun k hk hne => setRow_other w g k _ (fun e => hne (by simp [Value.ownBlock, e]))⟩, by simp, by simp [Value.ownBlock]⟩
      · simp [Builtin.append_, run_underlying ht, run_underlying ht', sizeOf, typeInfo, hi, hlx, hroom, hf, Addr.add_lit, hst]
      · simp only [List.size_toArray, List.length_append, List.length_take, List.length_drop, Array.length_toList]
        omega
      · rw [List.append_assoc, List.drop_append_of_le_length (by simp; omega), List.drop_take]
        have h8 : o + n * i.size - o = n * i.size := by omega
        rw [h8, htake, ← List.append_assoc, ← hlen]
        exact List.take_left
    · have hoo : Own w ok e i.size (.slice (some ⟨g, o, none⟩) n cap) n cs := hown
      have hod : Arr w.drew ok (.slice (some ⟨g, o, none⟩) n cap) n i.size cs := hoo.arr.fr (S := fun _ => False) (Fr.refl _ w).drew (fun _ _ h => h)
      have hfo := (hod.first (P := P)).1
      have h63' : ¬ (9223372036854775807 < ((n : Int) + (m : Int))) := by omega
      have h48' : ¬ (281474976710656 < Builtin.nextslicecap (n + m) cap * i.bytes) := by
        have := growslice_fits (old := cap) (by omega) hbytes
        omega
      refine ⟨_, _, ?_, grown cap (by omega), hfrn _, by simp, by simp [Value.ownBlock]⟩
      simp [Builtin.append_, run_underlying ht, run_underlying ht', sizeOf, typeInfo, zeroValue, hi, hz, hlx, hroom, h63', h48', Question.forced, hfd, hfo, newRow, grownCap]
      congr 2
      rw [← Array.append_assoc]; simp
end Go.Proofs.YtelfaljidgfphaaGreat
