/-
  Laws on maps of this seat: a map whose keys are numbered (integers, pointers, interface values that hold pointers): look-up, store, delete, length, and ranging over it.
-/
import Derived.Test.YtelfaljidgfphaaGreatRows
import Derived.WalkKit
import Derived.WalkSpells
import Derived.WalkLawsBesides
import Derived.Maps.RangeRun
import Derived.LaidEql
namespace Go.Proofs.YtelfaljidgfphaaGreat
open Go.RowKit
open Go.ChangeMaps (setBlock)

/-- The world w' is w but for the blocks of S and new blocks. -/
structure Fr (S : Nat → Prop) (w w' : World) : Prop where
  os : w'.os = w.os
  tape : w'.tape = w.tape
  output : w'.output = w.output
  size : w.heap.size ≤ w'.heap.size
  block : ∀ k, k < w.heap.size → ¬ S k → w'.heap[k]? = w.heap[k]?

theorem Fr.refl (S : Nat → Prop) (w : World) : Fr S w w := ⟨rfl, rfl, rfl, Nat.le_refl _, fun _ _ _ => rfl⟩
theorem Fr.trans {S : Nat → Prop} {a b c : World} (h : Fr S a b) (k : Fr S b c) : Fr S a c :=
  ⟨k.os.trans h.os, k.tape.trans h.tape, k.output.trans h.output, Nat.le_trans h.size k.size, fun i hi hs => (k.block i (Nat.lt_of_lt_of_le hi h.size) hs).trans (h.block i hi hs)⟩
theorem Fr.mono {S S' : Nat → Prop} {a b : World} (h : Fr S a b) (hs : ∀ k, k < a.heap.size → S k → S' k) : Fr S' a b :=
  ⟨h.os, h.tape, h.output, h.size, fun i hi hn => h.block i hi fun k => hn (hs i hi k)⟩
theorem Fr.drew {S : Nat → Prop} {a w : World} (h : Fr S a w) : Fr S a w.drew := ⟨h.os, h.tape, h.output, h.size, h.block⟩
theorem Fr.alloc {S : Nat → Prop} {a w : World} (h : Fr S a w) (o : Obj) : Fr S a (w.alloc o) :=
  h.trans ⟨rfl, rfl, rfl, by simp, fun k hk _ => Below.heap_alloc _ _ _ hk⟩
theorem Fr.setCell {S : Nat → Prop} {a w : World} (h : Fr S a w) {p : Addr} (hp : S p.block) (u : Value) : Fr S a (w.setCell p u) :=
  h.trans ⟨rfl, rfl, rfl, by simp [World.setCell], fun k _ hk => Below.heap_setCell _ _ _ _ (fun e => hk (e ▸ hp))⟩
theorem Fr.setBlock {S : Nat → Prop} {a w : World} (h : Fr S a w) {b : Nat} (hp : S b) (o : Obj) : Fr S a (setBlock w b o) := by
  refine h.trans ⟨rfl, rfl, rfl, by simp [ChangeMaps.setBlock], fun k _ hk => ?_⟩
  simp only [ChangeMaps.setBlock, Array.getElem?_setIfInBounds]
  rw [if_neg (fun e : b = k => hk (e ▸ hp))]
theorem Fr.of_grown {w w' : World} {row : Option Nat} (hg : w.grownBy w' row) : Fr (fun k => some k = row) w w' :=
  ⟨hg.os, hg.tape, hg.output, hg.size, fun k hk hs => hg.block k hk hs⟩
theorem Fr.of_below {w w' : World} {B : Nat} (h : Below B w w') : Fr (fun k => B ≤ k) w w' :=
  ⟨h.os, h.tape, h.output, h.size, fun k _ hs => h.block k (by omega)⟩
theorem Fr.below {w w' : World} {S : Nat → Prop} {B : Nat} (h : Fr S w w') (hB : B ≤ w.heap.size) (hs : ∀ k, S k → B ≤ k) : Below B w w' :=
  ⟨h.os, h.tape, h.output, h.size, fun k hk => h.block k (by omega) (fun c => by have := hs k c; omega)⟩
theorem Fr.cell {S : Nat → Prop} {w w' : World} (h : Fr S w w') {a : Addr} {v : Value} (hc : w.cell? a = some v) (hs : ¬ S a.block) : w'.cell? a = some v :=
  (World.cell?_of_block (w := w) (h.block a.block (World.block_lt_of_cell? w a hc) hs)).trans hc
theorem Fr.heap {S : Nat → Prop} {w w' : World} (h : Fr S w w') {b : Nat} {o : Obj} (hc : w.heap[b]? = some o) (hs : ¬ S b) : w'.heap[b]? = some o :=
  (h.block b (Array.getElem?_eq_some_iff.1 hc).1 hs).trans hc

theorem heap_lt {w : World} {b : Nat} {o : Obj} (h : w.heap[b]? = some o) : b < w.heap.size := (Array.getElem?_eq_some_iff.1 h).1

/-! ### Keys -/

/-- WHAT A MAP's KEYS MUST BE: 'enc 0', .., 'enc (n-1)' in the world w. -/
structure KeyOk (P : Program) (w : World) (t : TypeId) (enc : Nat → Value) (n : Nat) : Prop where
  inj : ∀ i j, i < n → j < n → enc i = enc j → i = j
  check : ∀ em i, i < n → (Instr.checkKey em 10000 t (enc i)).run P w = .ok () w
  eq : ∀ i j, i < n → j < n → (Op.equal t (enc i) (enc j)).run P w = .ok (decide (i = j)) w
  und : ∃ d, P.underlying t = some d ∧ ((∀ i j, i < n → j < n → Instr.sameNow d (enc i) (enc j) = none) ∨ (∀ i j, i < n → j < n → Instr.sameNow d (enc i) (enc j) = some (decide (i = j))))
  stays : ∀ i, i < n → (Instr.keyThatStays (enc i) (enc i)).run P w = .ok (enc i) w

/-- Where k stands in a list of keys, and what stands there. -/
def posOf (k : Nat) : List Nat → List MapEntry → Nat → Option (Nat × Value)
  | j :: ks, e :: es, i => if k = j then some (i, e.val) else posOf k ks es (i + 1)
  | _, _, _ => none

theorem find_asking {P : Program} {w : World} {t : TypeId} {enc : Nat → Value} {n : Nat} (K : KeyOk P w t enc n) {k : Nat} (hk : k < n) :
    ∀ (ks : List Nat) (es : List MapEntry) (i : Nat), (∀ x ∈ ks, x < n) → es.map (·.key) = ks.map enc → (Instr.findAsking t (enc k) es i).run P w = .ok (posOf k ks es i) w
  | [], [], i, _, _ => by simp [Instr.findAsking, posOf]
  | [], e :: es, i, _, h => by simp at h
  | j :: ks, [], i, _, h => by simp at h
  | j :: ks, e :: es, i, hn, h => by
    simp only [List.map_cons, List.cons.injEq] at h
    have hj : j < n := hn j (by simp)
    have ih := find_asking K hk ks es (i + 1) (fun x hx => hn x (by simp [hx])) h.2
    simp only [Instr.findAsking, posOf, Sem.run_bind, h.1, K.eq k j hk hj, Result.andThen_ok]
    by_cases e1 : k = j
    · simp [e1]
    · simp [e1, ih]

theorem find_now {d : TypeDesc} {enc : Nat → Value} {n : Nat} (h0 : ∀ i j, i < n → j < n → Instr.sameNow d (enc i) (enc j) = some (decide (i = j))) {k : Nat} (hk : k < n) :
    ∀ (ks : List Nat) (es : List MapEntry) (i : Nat), (∀ x ∈ ks, x < n) → es.map (·.key) = ks.map enc → Instr.findNow d (enc k) es i = some (posOf k ks es i)
  | [], [], i, _, _ => by simp [Instr.findNow, posOf]
  | [], e :: es, i, _, h => by simp at h
  | j :: ks, [], i, _, h => by simp at h
  | j :: ks, e :: es, i, hn, h => by
    simp only [List.map_cons, List.cons.injEq] at h
    have hj : j < n := hn j (by simp)
    have ih := find_now h0 hk ks es (i + 1) (fun x hx => hn x (by simp [hx])) h.2
    simp only [Instr.findNow, posOf, h.1, h0 k j hk hj]
    by_cases e1 : k = j
    · simp [e1]
    · simp [e1, ih]

theorem find_key {P : Program} {w : World} {t : TypeId} {enc : Nat → Value} {n : Nat} (K : KeyOk P w t enc n) {k : Nat} (hk : k < n)
    (ks : List Nat) (es : List MapEntry) (hn : ∀ x ∈ ks, x < n) (h : es.map (·.key) = ks.map enc) : (Instr.findKey t (enc k) es).run P w = .ok (posOf k ks es 0) w := by
  obtain ⟨d, hd, hs⟩ := K.und
  simp only [Instr.findKey, Sem.run_bind, run_underlying hd, Result.andThen_ok]
  rcases hs with hs | hs
  · cases ks with
    | nil =>
      have : es = [] := by simpa using h
      subst this
      simp [Instr.findNow, posOf]
    | cons j ks =>
      cases es with
      | nil => simp at h
      | cons e es =>
        have h' := h
        simp only [List.map_cons, List.cons.injEq] at h'
        have hj : j < n := hn j (by simp)
        have : Instr.findNow d (enc k) (e :: es) 0 = none := by simp [Instr.findNow, h'.1, hs k j hk hj]
        simp only [this]
        exact find_asking K hk _ _ 0 hn h
  · simp only [find_now hs hk ks es 0 hn h]
    rfl

theorem posOf_none {k : Nat} : ∀ (ks : List Nat) (es : List MapEntry) (i : Nat), k ∉ ks → posOf k ks es i = none
  | [], _, _, _ => by simp [posOf]
  | j :: ks, [], _, _ => by simp [posOf]
  | j :: ks, e :: es, i, h => by
    simp only [List.mem_cons, not_or] at h
    simp only [posOf, if_neg h.1]
    exact posOf_none ks es (i + 1) h.2

theorem posOf_some {k : Nat} : ∀ (ks : List Nat) (es : List MapEntry) (i : Nat), ks.length = es.length → k ∈ ks →
    ∃ (j : Nat) (e : MapEntry), posOf k ks es i = some (i + j, e.val) ∧ ks[j]? = some k ∧ es[j]? = some e
  | [], _, _, _, h => by simp at h
  | j :: ks, [], _, hl, _ => by simp at hl
  | j :: ks, e :: es, i, hl, h => by
    by_cases e1 : k = j
    · exact ⟨0, e, by simp [posOf, e1], by simp [e1], by simp⟩
    · obtain ⟨j', e', h1, h2, h3⟩ := posOf_some ks es (i + 1) (by simpa using hl) (by simpa [e1] using h)
      exact ⟨j' + 1, e', by simp only [posOf, if_neg e1, h1]; congr 2; omega, by simpa using h2, by simpa using h3⟩

/-! ### A map with numbered keys -/

/-- Block b is a map; its keys are 'enc k' for k in ks (no key twice, in the order of the entries), each holds 'val k'. -/
def NMap (w : World) (b : Nat) (enc : Nat → Value) (n : Nat) (ks : List Nat) (val : Nat → Value) : Prop :=
  ks.Nodup ∧ (∀ k ∈ ks, k < n) ∧ ∃ (es : Array MapEntry) (clock : Nat), w.heap[b]? = some (.map es clock) ∧ es.toList.map (·.key) = ks.map enc ∧ es.toList.map (·.val) = ks.map val ∧
    (∀ e ∈ es.toList, e.born < clock) ∧ (es.toList.map (·.born)).Nodup

theorem NMap.of_block {w w' : World} {b : Nat} {enc : Nat → Value} {n : Nat} {ks : List Nat} {val : Nat → Value} (h : NMap w b enc n ks val) (hb : w'.heap[b]? = w.heap[b]?) : NMap w' b enc n ks val := by
  obtain ⟨h1, h2, es, c, h3, h4⟩ := h
  exact ⟨h1, h2, es, c, by rw [hb]; exact h3, h4⟩

theorem NMap.lt {w : World} {b : Nat} {enc : Nat → Value} {n : Nat} {ks : List Nat} {val : Nat → Value} (h : NMap w b enc n ks val) : b < w.heap.size := by
  obtain ⟨_, _, es, c, h3, _⟩ := h
  exact heap_lt h3

theorem NMap.fr {S : Nat → Prop} {w w' : World} {b : Nat} {enc : Nat → Value} {n : Nat} {ks : List Nat} {val : Nat → Value} (h : NMap w b enc n ks val) (hf : Fr S w w') (hs : ¬ S b) : NMap w' b enc n ks val :=
  h.of_block (hf.block b h.lt hs)

theorem NMap.congr {w : World} {b : Nat} {enc enc' : Nat → Value} {n n' : Nat} {ks : List Nat} {val val' : Nat → Value} (h : NMap w b enc n ks val) (he : ∀ k ∈ ks, enc k = enc' k) (hv : ∀ k ∈ ks, val k = val' k)
    (hn : ∀ k ∈ ks, k < n') : NMap w b enc' n' ks val' := by
  obtain ⟨h1, h2, es, c, h3, h4, h5, h6⟩ := h
  exact ⟨h1, hn, es, c, h3, h4.trans (List.map_congr_left he), h5.trans (List.map_congr_left hv), h6⟩

theorem NMap.made (w : World) (enc : Nat → Value) (n : Nat) (val : Nat → Value) : NMap (w.alloc (.map #[] 0)) w.heap.size enc n [] val :=
  ⟨List.nodup_nil, by simp, #[], 0, heap_alloc_new w _, by simp, by simp, by simp, by simp⟩

section
variable {P : Program} {w : World} {t kt et : TypeId} {b : Nat} {enc : Nat → Value} {n : Nat} {ks : List Nat} {val : Nat → Value}

/-- 'm[k]' -/
theorem NMap.look (h : NMap w b enc n ks val) (K : KeyOk P w kt enc n) (ht : P.underlying t = some (.map kt et)) {z : Value} (hz : ∀ w, (zeroValue et).run P w = .ok z w) {k : Nat} (hk : k < n) :
    (Instr.lookup t (.map (some b)) (enc k) false).run P w = .ok (if k ∈ ks then val k else z) w := by
  obtain ⟨h1, h2, es, c, h3, h4, h5, _⟩ := h
  have hl : ks.length = es.toList.length := by have := congrArg List.length h4; simpa using this.symm
  simp only [Instr.lookup, Sem.run_bind, run_underlying ht, Result.andThen_ok, getObj, Sem.run, h3, Sem.run_pure, K.check _ k hk, find_key K hk ks es.toList h2 h4]
  by_cases hm : k ∈ ks
  · obtain ⟨j, e, hp, hj, he⟩ := posOf_some ks es.toList 0 hl hm
    rw [hp]
    have hv : e.val = val k := by
      have := congrArg (·[j]?) h5
      simp only [List.getElem?_map, he, hj, Option.map_some, Option.some.injEq] at this
      exact this
    simp [hm, hv]
  · rw [posOf_none _ _ _ hm]
    simp [hm, hz]

/-- 'm[k] = v': k is laid in, or its element is turned. -/
def putKs (ks : List Nat) (k : Nat) : List Nat := if k ∈ ks then ks else ks ++ [k]
def putVal (val : Nat → Value) (k : Nat) (v : Value) : Nat → Value := fun j => if j = k then v else val j

theorem nodup_snoc {α : Type} {l : List α} {a : α} (h : l.Nodup) (ha : a ∉ l) : (l ++ [a]).Nodup := by
  rw [List.nodup_append]
  exact ⟨h, by simp, fun x hx y hy => by simp at hy; subst hy; intro e; subst e; exact ha hx⟩

theorem NMap.put (h : NMap w b enc n ks val) (K : KeyOk P w kt enc n) (ht : P.underlying t = some (.map kt et)) {k : Nat} (hk : k < n) (v : Value) :
    ∃ w', (Instr.mapUpdate t (.map (some b)) (enc k) v).run P w = .ok () w' ∧ NMap w' b enc n (putKs ks k) (putVal val k v) ∧ Fr (fun j => j = b) w w' ∧ w'.heap.size = w.heap.size := by
  obtain ⟨h1, h2, es, c, h3, h4, h5, h6, h7⟩ := h
  have hl : ks.length = es.toList.length := by have := congrArg List.length h4; simpa using this.symm
  have hb : b < w.heap.size := heap_lt h3
  have hset : ∀ o, (setObj b o).run P w = .ok () (setBlock w b o) := fun o => by simp [setObj, Sem.run, h3, setBlock]
  have hnew : ∀ o, (setBlock w b o).heap[b]? = some o := fun o => by simp [setBlock, hb]
  simp only [Instr.mapUpdate, Sem.run_bind, run_underlying ht, Result.andThen_ok, getObj, Sem.run, h3, K.check _ k hk, find_key K hk ks es.toList h2 h4]
  by_cases hm : k ∈ ks
  · obtain ⟨j, e, hp, hj, he⟩ := posOf_some ks es.toList 0 hl hm
    rw [hp]
    have hek : e.key = enc k := by
      have := congrArg (·[j]?) h4
      simp only [List.getElem?_map, he, hj, Option.map_some, Option.some.injEq] at this
      exact this
    have he' : es[j]? = some e := by simpa using he
    simp only [Nat.zero_add, he', Option.map_some, Option.getD_some, hek, K.stays k hk, Result.andThen_ok, Sem.run_bind, hset]
    refine ⟨_, rfl, ?_, Fr.setBlock (S := fun j => j = b) (Fr.refl _ w) rfl _, by simp [setBlock]⟩
    have hks : putKs ks k = ks := by simp [putKs, hm]
    have hjl : j < es.size := (Array.getElem?_eq_some_iff.1 he').1
    have hmod : (es.modify j fun x => { x with key := enc k, val := v }).toList = es.toList.set j { e with key := enc k, val := v } := by
      apply List.ext_getElem?
      intro i
      rw [Array.getElem?_toList, Array.getElem?_modify, List.getElem?_set, Array.getElem?_toList]
      by_cases hij : j = i
      · subst hij
        have hgj : es[j] = e := (Array.getElem?_eq_some_iff.1 he').2
        simp [hjl, hgj]
      · simp [hij]
    rw [hks]
    refine ⟨h1, h2, _, c, hnew _, ?_, ?_, ?_, ?_⟩
    · rw [hmod, List.map_set, h4]
      apply List.ext_getElem?
      intro i
      rw [List.getElem?_set]
      by_cases hij : j = i
      · subst hij; simp only [if_true, List.getElem?_map, hj, Option.map_some]; rw [if_pos (by simpa [hl] using hjl)]
      · simp [hij]
    · rw [hmod, List.map_set, h5]
      apply List.ext_getElem?
      intro i
      rw [List.getElem?_set, List.getElem?_map, List.getElem?_map]
      by_cases hij : j = i
      · subst hij
        simp only [if_true, hj, Option.map_some, putVal]; rw [if_pos (by simpa [hl] using hjl)]
      · rw [if_neg hij]
        cases hi : ks[i]? with
        | none => rfl
        | some x =>
          have hx : x ≠ k := fun e1 => by
            subst e1
            obtain ⟨hi', hie⟩ := List.getElem?_eq_some_iff.1 hi
            obtain ⟨hj', hje⟩ := List.getElem?_eq_some_iff.1 hj
            exact hij ((List.getElem_inj h1).1 (hje.trans hie.symm))
          simp [putVal, hx]
    · rw [hmod]
      intro x hx
      rcases List.mem_or_eq_of_mem_set hx with hx | hx
      · exact h6 x hx
      · subst hx; exact h6 e (List.mem_of_getElem? he)
    · rw [hmod, List.map_set]
      have : (es.toList.map (·.born)).set j e.born = es.toList.map (·.born) := by
        apply List.ext_getElem?
        intro i
        rw [List.getElem?_set]
        by_cases hij : j = i
        · subst hij
          have hgj : es[j] = e := (Array.getElem?_eq_some_iff.1 he').2
          simp [hjl, hgj]
        · simp [hij]
      simp only [this]
      exact h7
  · rw [posOf_none _ _ _ hm]
    simp only [hset]
    refine ⟨_, rfl, ?_, Fr.setBlock (S := fun j => j = b) (Fr.refl _ w) rfl _, by simp [setBlock]⟩
    have hks : putKs ks k = ks ++ [k] := by simp [putKs, hm]
    rw [hks]
    refine ⟨nodup_snoc h1 hm, ?_, _, c + 1, hnew _, ?_, ?_, ?_, ?_⟩
    · intro x hx
      rcases List.mem_append.1 hx with hx | hx
      · exact h2 x hx
      · simp at hx; subst hx; exact hk
    · simp [h4]
    · simp only [Array.toList_push, List.map_append, h5, List.map_cons, List.map_nil]
      congr 1
      · refine List.map_congr_left fun x hx => ?_
        have hxk : x ≠ k := fun e => hm (e ▸ hx)
        simp [putVal, hxk]
      · simp [putVal]
    · intro x hx
      simp only [Array.toList_push, List.mem_append, List.mem_singleton] at hx
      rcases hx with hx | hx
      · have := h6 x hx; omega
      · subst hx; simp
    · simp only [Array.toList_push, List.map_append, List.map_cons, List.map_nil]
      refine nodup_snoc h7 fun hx => ?_
      obtain ⟨x, hx, hxe⟩ := List.mem_map.1 hx
      have := h6 x hx
      omega

theorem erase_at {k : Nat} : ∀ (ks : List Nat) (j : Nat), ks.Nodup → ks[j]? = some k → ks.erase k = ks.eraseIdx j
  | [], _, _, h => by simp at h
  | a :: ks, 0, _, h => by
    simp at h; subst h; simp
  | a :: ks, j + 1, hn, h => by
    have h' : ks[j]? = some k := by simpa using h
    obtain ⟨h1, h2⟩ := List.nodup_cons.1 hn
    have hak : a ≠ k := fun e => h1 (e ▸ List.mem_of_getElem? h')
    rw [List.erase_cons_tail (by simpa using hak), List.eraseIdx_cons_succ, erase_at ks j h2 h']

theorem run_setObj_map {w : World} {b : Nat} {es : Array MapEntry} {c : Nat} (h3 : w.heap[b]? = some (.map es c)) (o : Obj) : (setObj b o).run P w = .ok () (setBlock w b o) := by
  simp [setObj, Sem.run, h3, setBlock]

/-- 'delete(m, k)' -/
theorem NMap.del (h : NMap w b enc n ks val) (K : KeyOk P w kt enc n) (ht : P.underlying t = some (.map kt et)) {k : Nat} (hk : k < n) (ty : TypeId) (ts : Array TypeId) (has : ts[0]? = some t) :
    ∃ w', (Builtin.delete_ ts ty #[.map (some b), enc k]).run P w = .ok (.tuple #[]) w' ∧ NMap w' b enc n (ks.erase k) val ∧ Fr (fun j => j = b) w w' ∧ w'.heap.size = w.heap.size := by
  obtain ⟨h1, h2, es, c, h3, h4, h5, h6, h7⟩ := h
  have hl : ks.length = es.toList.length := by have := congrArg List.length h4; simpa using this.symm
  have hb : b < w.heap.size := heap_lt h3
  have hnew : ∀ o, (setBlock w b o).heap[b]? = some o := fun o => by simp [setBlock, hb]
  have e0 : (#[Value.map (some b), enc k] : Array Value)[0]? = some (.map (some b)) := rfl
  have e1 : (#[Value.map (some b), enc k] : Array Value)[1]? = some (enc k) := rfl
  simp only [Builtin.delete_, has, e0, e1, Sem.run_bind, run_underlying ht, Result.andThen_ok, getObj, Sem.run, h3, K.check _ k hk, find_key K hk ks es.toList h2 h4]
  by_cases hm : k ∈ ks
  · obtain ⟨j, e, hp, hj, he⟩ := posOf_some ks es.toList 0 hl hm
    rw [hp]
    simp only [Nat.zero_add, Sem.run_bind, run_setObj_map h3, Result.andThen_ok]
    refine ⟨_, rfl, ?_, Fr.setBlock (S := fun j => j = b) (Fr.refl _ w) rfl _, by simp [setBlock]⟩
    have he' : es[j]? = some e := by simpa using he
    have hjl : j < es.size := (Array.getElem?_eq_some_iff.1 he').1
    have herase : ks.erase k = ks.eraseIdx j := erase_at ks j h1 hj
    have hel : (es.eraseIdxIfInBounds j).toList = es.toList.eraseIdx j := by simp [Array.eraseIdxIfInBounds, hjl]
    rw [herase]
    refine ⟨h1.sublist (List.eraseIdx_sublist _ _), fun x hx => h2 x ((List.eraseIdx_sublist _ _).subset hx), _, c, hnew _, ?_, ?_, ?_, ?_⟩
    · rw [hel, ChangeMaps.map_eraseIdx, h4, ChangeMaps.map_eraseIdx]
    · rw [hel, ChangeMaps.map_eraseIdx, h5, ChangeMaps.map_eraseIdx]
    · rw [hel]; exact fun x hx => h6 x ((List.eraseIdx_sublist _ _).subset hx)
    · rw [hel, ChangeMaps.map_eraseIdx]; exact h7.sublist (List.eraseIdx_sublist _ _)
  · rw [posOf_none _ _ _ hm]
    simp only [Sem.run_bind, run_setObj_map h3, Result.andThen_ok]
    refine ⟨_, rfl, ?_, Fr.setBlock (S := fun j => j = b) (Fr.refl _ w) rfl _, by simp [setBlock]⟩
    rw [List.erase_of_not_mem hm]
    exact ⟨h1, h2, es, c, hnew _, h4, h5, h6, h7⟩

/-- 'len(m)' -/
theorem NMap.len (h : NMap w b enc n ks val) (ht : P.underlying t = some (.map kt et)) (ty : TypeId) (ts : Array TypeId) (has : ts[0]? = some t) :
    (Builtin.len_ ts ty #[.map (some b)]).run P w = .ok (goInt ks.length) w := by
  obtain ⟨h1, h2, es, c, h3, h4, h5, h6, h7⟩ := h
  have hl : ks.length = es.size := by have := congrArg List.length h4; simpa using this.symm
  simp [Builtin.len_, has, run_underlying ht, getObj, Sem.run, h3, hl]

/-! ### Ranging over it -/

/-- Block r is an iterator over the map b: the keys 'rem' are still to come. -/
def NIter (w : World) (r b : Nat) (enc : Nat → Value) (n : Nat) (ks : List Nat) (val : Nat → Value) (rem : List Nat) : Prop :=
  ks.Nodup ∧ (∀ k ∈ ks, k < n) ∧ rem.Nodup ∧ (∀ k ∈ rem, k ∈ ks) ∧ ∃ (es : Array MapEntry) (clock : Nat) (seen : Array Nat), w.heap[b]? = some (.map es clock) ∧ w.heap[r]? = some (.mapIter (some b) clock seen clock) ∧
    es.toList.map (·.key) = ks.map enc ∧ es.toList.map (·.val) = ks.map val ∧ (∀ e ∈ es.toList, e.born < clock) ∧ (es.toList.map (·.born)).Nodup ∧
    (∀ (j : Nat) (k : Nat) (e : MapEntry), ks[j]? = some k → es.toList[j]? = some e → (k ∈ rem ↔ e.born ∉ seen))

theorem NMap.range (h : NMap w b enc n ks val) (ht : P.underlying t = some (.map kt et)) :
    ∃ o, (Instr.range t (.map (some b))).run P w = .ok (.pointer (some ⟨w.heap.size, 0, none⟩)) (w.alloc o) ∧ NIter (w.alloc o) w.heap.size b enc n ks val ks := by
  obtain ⟨h1, h2, es, c, h3, h4, h5, h6, h7⟩ := h
  have hb : b < w.heap.size := heap_lt h3
  refine ⟨.mapIter (some b) c #[] c, ?_, h1, h2, h1, fun _ h => h, es, c, #[], ?_, heap_alloc_new w _, h4, h5, h6, h7, fun j k e hj _ => ?_⟩
  · simp only [Instr.range, Sem.run_bind, run_underlying ht, Result.andThen_ok, getObj, Sem.run, h3, run_newObj]
    rfl
  · exact (Below.heap_alloc w _ _ hb).trans h3
  · simp [List.mem_of_getElem? hj]

theorem NIter.map {r : Nat} {rem : List Nat} (h : NIter w r b enc n ks val rem) : NMap w b enc n ks val := by
  obtain ⟨h1, h2, _, _, es, c, _, h3, _, h4, h5, h6, h7, _⟩ := h
  exact ⟨h1, h2, es, c, h3, h4, h5, h6, h7⟩

theorem NIter.of_block {r : Nat} {rem : List Nat} {w' : World} (h : NIter w r b enc n ks val rem) (hb : w'.heap[b]? = w.heap[b]?) (hr : w'.heap[r]? = w.heap[r]?) : NIter w' r b enc n ks val rem := by
  obtain ⟨h1, h2, ha, hb', es, c, s, h3, h3', h4⟩ := h
  exact ⟨h1, h2, ha, hb', es, c, s, by rw [hb]; exact h3, by rw [hr]; exact h3', h4⟩

theorem NIter.lt {r : Nat} {rem : List Nat} (h : NIter w r b enc n ks val rem) : b < w.heap.size ∧ r < w.heap.size := by
  obtain ⟨h1, h2, ha, hb', es, c, s, h3, h3', h4⟩ := h
  exact ⟨heap_lt h3, heap_lt h3'⟩

theorem NIter.fr {S : Nat → Prop} {r : Nat} {rem : List Nat} {w' : World} (h : NIter w r b enc n ks val rem) (hf : Fr S w w') (hb : ¬ S b) (hr : ¬ S r) : NIter w' r b enc n ks val rem :=
  h.of_block (hf.block b h.lt.1 hb) (hf.block r h.lt.2 hr)

/-- THE STEP: nothing is left; or one of the keys that are left comes out, whichever the tape says. -/
theorem NIter.next {r : Nat} {rem : List Nat} (h : NIter w r b enc n ks val rem) (ty : TypeId) :
    (rem = [] ∧ (Instr.next (.pointer (some ⟨r, 0, none⟩)) false ty).run P w = .ok (.tuple #[.bool false]) w) ∨
    ∃ k ∈ rem, ∃ w', (Instr.next (.pointer (some ⟨r, 0, none⟩)) false ty).run P w = .ok (.tuple #[.bool true, enc k, val k]) w' ∧
      (∀ P' : Program, (Instr.entry (.pointer (some ⟨r, 0, none⟩))).run P' w' = .ok (.tuple #[enc k, val k]) w') ∧ NIter w' r b enc n ks val (rem.erase k) ∧ Fr (fun j => j = r) w w' ∧ w'.heap.size = w.heap.size := by
  obtain ⟨h1, h2, ha, hb', es, c, s, h3, h3', h4, h5, h6, h7, h8⟩ := h
  have hl : ks.length = es.toList.length := by have := congrArg List.length h4; simpa using this.symm
  rcases run_next_at (P := P) w ty r b c c s es c h3' h3 h6 (Nat.le_refl _) with ⟨h0, hrun⟩ | ⟨e, he, w1, hw1, hrun⟩
  · refine .inl ⟨?_, hrun⟩
    refine List.eq_nil_iff_forall_not_mem.2 fun k hk => ?_
    obtain ⟨j, hj⟩ := List.mem_iff_getElem?.1 (hb' k hk)
    obtain ⟨hjl, _⟩ := List.getElem?_eq_some_iff.1 hj
    have hej : es.toList[j]? = some (es.toList[j]'(by omega)) := List.getElem?_eq_getElem _
    have hns := (h8 j k _ hj hej).1 hk
    have hmem : es.toList[j]'(by omega) ∈ (leftOf es s).toList := by
      simp only [leftOf, Array.toList_filter, List.mem_filter]
      exact ⟨List.getElem_mem _, by simpa using hns⟩
    have : 0 < (leftOf es s).toList.length := List.length_pos_of_mem hmem
    simp at this
    omega
  · right
    simp only [leftOf, Array.toList_filter, List.mem_filter] at he
    obtain ⟨hem, hns⟩ := he
    have hns : e.born ∉ s := by simpa using hns
    obtain ⟨j, hj⟩ := List.mem_iff_getElem?.1 hem
    obtain ⟨hjl, hje⟩ := List.getElem?_eq_some_iff.1 hj
    have hkj : ks[j]? = some (ks[j]'(by omega)) := List.getElem?_eq_getElem _
    generalize ks[j]'(by omega) = k at hkj
    have hkrem : k ∈ rem := (h8 j k e hkj hj).2 hns
    have hek : e.key = enc k := by
      have := congrArg (·[j]?) h4
      simp only [List.getElem?_map, hj, hkj, Option.map_some, Option.some.injEq] at this
      exact this
    have hev : e.val = val k := by
      have := congrArg (·[j]?) h5
      simp only [List.getElem?_map, hj, hkj, Option.map_some, Option.some.injEq] at this
      exact this
    have hb1 : w1.heap[b]? = w.heap[b]? := by rcases hw1 with rfl | rfl <;> rfl
    have hr1 : w1.heap[r]? = w.heap[r]? := by rcases hw1 with rfl | rfl <;> rfl
    have hs1 : w1.heap.size = w.heap.size := by rcases hw1 with rfl | rfl <;> rfl
    have hne : b ≠ r := fun e => by subst e; rw [h3] at h3'; cases h3'
    have hrl : r < w1.heap.size := by rw [hs1]; exact heap_lt h3'
    have hnewr : (setBlock w1 r (.mapIter (some b) c (s.push e.born) c)).heap[r]? = some (.mapIter (some b) c (s.push e.born) c) := by simp [setBlock, hrl]
    have hnewb : (setBlock w1 r (.mapIter (some b) c (s.push e.born) c)).heap[b]? = some (.map es c) := by
      simp only [setBlock, Array.getElem?_setIfInBounds]
      rw [if_neg (fun e => hne e.symm), hb1, h3]
    refine ⟨k, hkrem, _, by rw [hrun, hek, hev], fun P' => ?_, ?_, ?_, by simp [setBlock, hs1]⟩
    · have := run_entry_at (P := P') (setBlock w1 r (.mapIter (some b) c (s.push e.born) c)) r b c s es c e hnewr hnewb hem h7
      rw [this, hek, hev]
    · refine ⟨h1, h2, ha.erase k, fun x hx => hb' x (List.mem_of_mem_erase hx), es, c, s.push e.born, hnewb, hnewr, h4, h5, h6, h7, ?_⟩
      intro i x e' hi he'
      rw [List.Nodup.mem_erase_iff ha]
      have h9 := h8 i x e' hi he'
      by_cases hij : i = j
      · subst hij
        rw [hkj] at hi; cases hi
        rw [hj] at he'; cases he'
        simp
      · have hxk : x ≠ k := fun e1 => by
          subst e1
          obtain ⟨hi', hie⟩ := List.getElem?_eq_some_iff.1 hi
          obtain ⟨hj', hje'⟩ := List.getElem?_eq_some_iff.1 hkj
          exact hij ((List.getElem_inj h1).1 (hie.trans hje'.symm))
        have hbo : e'.born ≠ e.born := fun e1 => by
          obtain ⟨hi', hie⟩ := List.getElem?_eq_some_iff.1 he'
          have a1 : (es.toList.map (·.born))[i]'(by simpa using hi') = (es.toList.map (·.born))[j]'(by simpa using hjl) := by
            simp only [List.getElem_map, hie, hje]; exact e1
          exact hij ((List.getElem_inj h7).1 a1)
        simp [hxk, h9, hbo]
    · rcases hw1 with rfl | rfl
      · exact Fr.setBlock (S := fun j => j = r) (Fr.refl _ _) rfl _
      · exact Fr.setBlock (S := fun j => j = r) (Fr.refl _ w).drew rfl _
end
end Go.Proofs.YtelfaljidgfphaaGreat
