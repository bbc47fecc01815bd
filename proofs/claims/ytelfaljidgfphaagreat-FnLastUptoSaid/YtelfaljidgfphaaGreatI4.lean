/-
  What 'build' lays: the objects, the declarations, the map from objects to declarations. Laws on worlds alone.
-/
import Derived.Test.YtelfaljidgfphaaGreatI3
namespace Go.Proofs.YtelfaljidgfphaaGreat
open Go.RowKit

/-- Where it lies: the object r, the declaration k, its map of dependencies, its left-hand side. -/
structure Gh where
  ob : Nat → Nat
  dc : Nat → Nat
  dm : Nat → Nat
  lh : Nat → Value

def tyI (p : List It) (r : Nat) : Nat := if (it p (own p r)).kind = 4 then 111 else if (it p (own p r)).kind = 3 then 116 else 102
def tyE (p : List It) (r : Nat) : Nat := if (it p (own p r)).kind = 4 then 112 else if (it p (own p r)).kind = 3 then 117 else 106
def Gh.enc (p : List It) (g : Gh) (r : Nat) : Value := ifc (tyI p r) (g.ob r)
def Started (p : List It) (k r : Nat) : Prop := k < p.length ∧ start p k < r
/-- So many objects of the declaration k have been laid when r objects have. -/
def laidN (p : List It) (k r : Nat) : Nat := min (it p k).n (r - start p k)

structure Lr (B : Nat) (p : List It) (m L om gm : Nat) (g : Gh) (ro rd rm : Nat) (w : World) : Prop where
  obj : ∀ i, i < ro → w.heap[g.ob i]? = some (.cells #[.string ⟨#[]⟩, .int .u32 (i : Int), .int .i64 (i : Int)] (tyE p i) (0, 0))
  objGe : ∀ i, i < ro → B ≤ g.ob i
  objInj : ∀ i j, i < ro → j < ro → g.ob i = g.ob j → i = j
  row : ∃ ls : Array Value, w.heap[L]? = some (.cells ls 108 (0, 0)) ∧ ls.size = m ∧ ∀ i, i < ro → ls[i]? = some (g.enc p i)
  dcl : ∀ k, Started p k rd → w.heap[g.dc k]? = some (.cells #[g.lh k, .bool (it p k).ini, .map (some (g.dm k))] 115 (0, 0))
  dclGe : ∀ k, Started p k rd → B ≤ g.dc k
  dclInj : ∀ k l, Started p k rd → Started p l rd → g.dc k = g.dc l → k = l
  dep : ∀ k, Started p k rd → w.heap[g.dm k]? = some (.map #[] 0)
  depGe : ∀ k, Started p k rd → B ≤ g.dm k
  depInj : ∀ k l, Started p k rd → Started p l rd → g.dm k = g.dm l → k = l
  lone : ∀ k, Started p k rd → (it p k).kind ≠ 1 → g.lh k = .slice none 0 0
  lhs : ∀ k, Started p k rd → (it p k).kind = 1 → Own w (fun b => B ≤ b) 102 1 (g.lh k) (laidN p k rd) ((List.range' (start p k) (laidN p k rd)).map fun r => ptr (g.ob r))
  lhsSep : ∀ k l, Started p k rd → Started p l rd → k ≠ l → (it p k).kind = 1 → (it p l).kind = 1 → ∀ b, (g.lh k).ownBlock = some b → (g.lh l).ownBlock ≠ some b
  omap : NMap w om (g.enc p) rm (List.range rm) (fun i => ptr (g.dc (own p i)))
  gmap : ∃ ks, NMap w gm (fun i => .int .i64 (i : Int)) (p.length + 1) ks (fun k => ptr (g.dc (k - 1))) ∧ ∀ k, k ∈ ks ↔ (1 ≤ k ∧ Started p (k - 1) rd ∧ (it p (k - 1)).kind = 1)
  two : om ≠ gm
  maps : ∀ k, Started p k rd → g.dm k ≠ gm ∧ g.dm k ≠ om

theorem tyE_cases (p : List It) (r : Nat) : tyE p r = 112 ∨ tyE p r = 117 ∨ tyE p r = 106 := by unfold tyE; split; simp; split <;> simp
theorem ptr_tyI (p : List It) (r : Nat) : PtrT Tryz.prog (tyI p r) := by unfold tyI; split; exact ptr111; split; exact ptr116; exact ptr102

theorem ne_cells {w : World} {a b : Nat} {c c' : Array Value} {t t' : Nat} {f f' : Nat × Nat} (h : w.heap[a]? = some (.cells c t f)) (h' : w.heap[b]? = some (.cells c' t' f')) (ht : t ≠ t') : a ≠ b := fun e => by
  subst e; rw [h] at h'; injection h' with h'; injection h' with h1 h2 h3; exact ht h2
theorem ne_map {w : World} {a b : Nat} {c : Array Value} {t : Nat} {f : Nat × Nat} {es : Array MapEntry} {k : Nat} (h : w.heap[a]? = some (.cells c t f)) (h' : w.heap[b]? = some (.map es k)) : a ≠ b := fun e => by
  subst e; rw [h] at h'; cases h'
theorem NMap.ne {w : World} {a b : Nat} {c : Array Value} {t : Nat} {f : Nat × Nat} {enc : Nat → Value} {n : Nat} {ks : List Nat} {val : Nat → Value} (h' : NMap w b enc n ks val) (h : w.heap[a]? = some (.cells c t f)) : b ≠ a := by
  obtain ⟨_, _, es, k, h3, _⟩ := h'
  exact fun e => ne_map h h3 e.symm
theorem Own.row {w : World} {ok : Nat → Prop} {e sz n : Nat} {v : Value} {cs : List Value} (h : Own w ok e sz v n cs) {b : Nat} (hb : v.ownBlock = some b) : ∃ cur, w.heap[b]? = some (.cells cur e (0, 0)) := by
  obtain ⟨h1, h2⟩ := h
  rcases h2 with ⟨rfl, _⟩ | ⟨g, o, cap, cur, rfl, hok, hg, h3⟩
  · cases hb
  · cases hb; exact ⟨cur, hg⟩

theorem started_own {p : List It} {i r : Nat} (h : i < cnt p) (hi : i < r) : Started p (own p i) r := by
  obtain ⟨h1, h2, h3⟩ := own_spec h
  exact ⟨h1, by omega⟩
/-- The declarations that the next object starts. -/
theorem started_succ {p : List It} (hK : KOk p) {r k : Nat} (h : r < cnt p) : Started p k (r + 1) ↔ Started p k r ∨ (k = own p r ∧ start p (own p r) = r) := by
  obtain ⟨h1, h2, h3⟩ := own_spec h
  constructor
  · rintro ⟨hk, hs⟩
    by_cases e : start p k < r
    · exact .inl ⟨hk, e⟩
    · right
      have e1 : start p k = r := by omega
      have h6 := own_start (p := p) (k := k) (j := 0) hk (by have := (n_pos hK (it_mem hk)).1; omega)
      rw [Nat.add_zero, e1] at h6
      subst h6
      exact ⟨rfl, e1⟩
  · rintro (⟨hk, hs⟩ | ⟨rfl, hs⟩)
    · exact ⟨hk, by omega⟩
    · exact ⟨h1, by omega⟩
theorem started_same {p : List It} (hK : KOk p) {r k : Nat} (h : r < cnt p) (hs : start p (own p r) < r) : Started p k (r + 1) ↔ Started p k r := by
  rw [started_succ hK h]
  exact ⟨fun h => h.elim id (fun h => by omega), .inl⟩

section
variable {B : Nat} {p : List It} {m L om gm : Nat} {g : Gh} {ro rd rm : Nat} {w w' : World}

theorem Lr.gr (h : Lr B p m L om gm g ro rd rm w) (hg : Gr w w') : Lr B p m L om gm g ro rd rm w' where
  obj i hi := Fr.heap hg (h.obj i hi) id
  objGe := h.objGe
  objInj := h.objInj
  row := by
    obtain ⟨ls, h1, h2⟩ := h.row
    exact ⟨ls, Fr.heap hg h1 id, h2⟩
  dcl k hk := Fr.heap hg (h.dcl k hk) id
  dclGe := h.dclGe
  dclInj := h.dclInj
  dep k hk := Fr.heap hg (h.dep k hk) id
  depGe := h.depGe
  depInj := h.depInj
  lone := h.lone
  lhs k hk h1 := (h.lhs k hk h1).gr hg
  lhsSep := h.lhsSep
  omap := h.omap.fr hg id
  gmap := by
    obtain ⟨ks, h1, h2⟩ := h.gmap
    exact ⟨ks, h1.fr hg id, h2⟩
  two := h.two
  maps := h.maps

theorem Lr.objLt (h : Lr B p m L om gm g ro rd rm w) {i : Nat} (hi : i < ro) : g.ob i < w.heap.size := heap_lt (h.obj i hi)
theorem Lr.dclLt (h : Lr B p m L om gm g ro rd rm w) {k : Nat} (hk : Started p k rd) : g.dc k < w.heap.size := heap_lt (h.dcl k hk)
theorem Lr.depLt (h : Lr B p m L om gm g ro rd rm w) {k : Nat} (hk : Started p k rd) : g.dm k < w.heap.size := heap_lt (h.dep k hk)

theorem Lr.keyOk (h : Lr B p m L om gm g ro rd rm w) : KeyOk Tryz.prog w 108 (g.enc p) ro :=
  keyOk_ifc Tryz.underlying108 (fun r _ => ptr_tyI p r) (fun r hr => ⟨_, _, h.obj r hr⟩) h.objInj

/-- One object more. -/
theorem Lr.addObj (h : Lr B p m L om gm g ro rd rm w) (hf : Fr (fun b => b = L) w w') {b0 : Nat} (hb0 : w.heap.size ≤ b0) (hB : B ≤ w.heap.size) (hrm : rm ≤ ro)
    (hobj : w'.heap[b0]? = some (.cells #[.string ⟨#[]⟩, .int .u32 (ro : Int), .int .i64 (ro : Int)] (tyE p ro) (0, 0)))
    (hrow : ∀ ls : Array Value, w.heap[L]? = some (.cells ls 108 (0, 0)) → w'.heap[L]? = some (.cells (ls.setIfInBounds ro (ifc (tyI p ro) b0)) 108 (0, 0))) (hm : ro < m) (hrd : rd ≤ ro) :
    Lr B p m L om gm { g with ob := fun i => if i = ro then b0 else g.ob i } (ro + 1) rd rm w' where
  obj i hi := by
    by_cases e : i = ro
    · subst e; simpa using hobj
    · have hi' : i < ro := by omega
      simp only [if_neg e]
      obtain ⟨ls, h1, _⟩ := h.row
      exact hf.heap (h.obj i hi') (ne_cells (h.obj i hi') h1 (by rcases tyE_cases p i with e | e | e <;> rw [e] <;> decide))
  objGe i hi := by
    by_cases e : i = ro
    · simp [e]; omega
    · simp only [if_neg e]; exact h.objGe i (by omega)
  objInj i j hi hj he := by
    by_cases e : i = ro <;> by_cases e' : j = ro
    · omega
    · simp only [e, if_true, if_neg e'] at he; have := h.objLt (i := j) (by omega); omega
    · simp only [e', if_true, if_neg e] at he; have := h.objLt (i := i) (by omega); omega
    · simp only [if_neg e, if_neg e'] at he; exact h.objInj i j (by omega) (by omega) he
  row := by
    obtain ⟨ls, h1, h2, h3⟩ := h.row
    refine ⟨_, hrow ls h1, by simpa using h2, fun i hi => ?_⟩
    rw [Array.getElem?_setIfInBounds]
    by_cases e : i = ro
    · subst e; simp [h2, hm, Gh.enc]
    · rw [if_neg (fun e' => e e'.symm), h3 i (by omega)]; simp [Gh.enc, e]
  dcl k hk := by
    obtain ⟨ls, h1, _⟩ := h.row
    exact hf.heap (h.dcl k hk) (ne_cells (h.dcl k hk) h1 (by decide))
  dclGe := h.dclGe
  dclInj := h.dclInj
  dep k hk := by
    obtain ⟨ls, h1, _⟩ := h.row
    exact hf.heap (h.dep k hk) (fun e => ne_map h1 (h.dep k hk) e.symm)
  depGe := h.depGe
  depInj := h.depInj
  lone := h.lone
  lhs k hk h1 := by
    obtain ⟨ls, hL, _⟩ := h.row
    have h2 := (h.lhs k hk h1).fr hf (fun b hb => by obtain ⟨cur, hc⟩ := (h.lhs k hk h1).row hb; exact ne_cells hc hL (by decide))
    have e : (List.range' (start p k) (laidN p k rd)).map (fun r => ptr (if r = ro then b0 else g.ob r)) = (List.range' (start p k) (laidN p k rd)).map (fun r => ptr (g.ob r)) := by
      refine List.map_congr_left fun r hr => ?_
      have : r ≠ ro := by
        simp only [List.mem_range'_1, laidN] at hr
        have := hk.2
        omega
      simp [this]
    rw [e]; exact h2
  lhsSep := h.lhsSep
  omap := by
    obtain ⟨ls, hL, _⟩ := h.row
    refine (h.omap.fr hf (h.omap.ne hL)).congr (fun k hk => ?_) (fun _ _ => rfl) h.omap.2.1
    have : k ≠ ro := by simp at hk; omega
    simp [Gh.enc, this]
  gmap := by
    obtain ⟨ls, hL, _⟩ := h.row
    obtain ⟨ks, h1, h2⟩ := h.gmap
    exact ⟨ks, h1.fr hf (h1.ne hL), h2⟩
  two := h.two
  maps := h.maps

theorem laid_done {p : List It} {l r : Nat} (hl : Started p l r) (hne : l ≠ own p r) : laidN p l (r + 1) = (it p l).n ∧ laidN p l r = (it p l).n := by
  have h1 := hl.2
  have h2 : ¬ r < start p l + (it p l).n := fun h => hne (by
    have := own_start (p := p) (k := l) (j := r - start p l) hl.1 (by omega)
    rw [show start p l + (r - start p l) = r by omega] at this
    exact this.symm)
  unfold laidN
  omega

/-- One declaration more. -/
theorem Lr.addDecl (h : Lr B p m L om gm g (rd + 1) rd rd w) (hK : KOk p) (hr : rd < cnt p) (hst : start p (own p rd) = rd) (hB : B ≤ w.heap.size) (hf : Fr (fun b => b = gm) w w') {c0 m0 : Nat} {lh0 : Value} (hc0 : w.heap.size ≤ c0) (hm0 : w.heap.size ≤ m0)
    (hc : w'.heap[c0]? = some (.cells #[lh0, .bool (it p (own p rd)).ini, .map (some m0)] 115 (0, 0))) (hd : w'.heap[m0]? = some (.map #[] 0))
    (hlone : (it p (own p rd)).kind ≠ 1 → lh0 = .slice none 0 0) (hlhs : (it p (own p rd)).kind = 1 → Own w' (fun b => B ≤ b) 102 1 lh0 1 [ptr (g.ob rd)]) (hsep : ∀ b, lh0.ownBlock = some b → w.heap.size ≤ b)
    (hgm : ∃ ks, (∀ k, k ∈ ks ↔ (1 ≤ k ∧ Started p (k - 1) rd ∧ (it p (k - 1)).kind = 1)) ∧
      if (it p (own p rd)).kind = 1 then NMap w' gm (fun i => .int .i64 (i : Int)) (p.length + 1) (putKs ks (own p rd + 1)) (putVal (fun k => ptr (g.dc (k - 1))) (own p rd + 1) (ptr c0)) else NMap w' gm (fun i => .int .i64 (i : Int)) (p.length + 1) ks (fun k => ptr (g.dc (k - 1)))) :
    Lr B p m L om gm { g with dc := fun j => if j = own p rd then c0 else g.dc j, dm := fun j => if j = own p rd then m0 else g.dm j, lh := fun j => if j = own p rd then lh0 else g.lh j } (rd + 1) (rd + 1) rd w' := by
  obtain ⟨hk1, hk2, hk3⟩ := own_spec hr
  have hne : ∀ l, Started p l rd → l ≠ own p rd := fun l hl e => by have := hl.2; rw [e] at this; omega
  have hS : ∀ l, Started p l (rd + 1) → l ≠ own p rd → Started p l rd := fun l hl hn => ((started_succ hK hr).1 hl).elim id (fun h => absurd h.1 hn)
  exact {
    obj := fun i hi => by
      obtain ⟨ks, hg, _⟩ := h.gmap
      exact hf.heap (h.obj i hi) (fun e => hg.ne (h.obj i hi) e.symm)
    objGe := h.objGe
    objInj := h.objInj
    row := by
      obtain ⟨ks, hg, _⟩ := h.gmap
      obtain ⟨ls, h1, h2⟩ := h.row
      exact ⟨ls, hf.heap h1 (fun e => hg.ne h1 e.symm), h2⟩
    dcl := fun l hl => by
      obtain ⟨ks, hg, _⟩ := h.gmap
      by_cases e : l = own p rd
      · subst e; simpa using hc
      · simp only [if_neg e]
        exact hf.heap (h.dcl l (hS l hl e)) (fun e' => hg.ne (h.dcl l (hS l hl e)) e'.symm)
    dclGe := fun l hl => by
      by_cases e : l = own p rd
      · simp [e]; omega
      · simp only [if_neg e]; exact h.dclGe l (hS l hl e)
    dclInj := fun l l' hl hl' he => by
      by_cases e : l = own p rd <;> by_cases e' : l' = own p rd
      · omega
      · simp only [e, if_true, if_neg e'] at he; have := h.dclLt (hS l' hl' e'); omega
      · simp only [e', if_true, if_neg e] at he; have := h.dclLt (hS l hl e); omega
      · simp only [if_neg e, if_neg e'] at he; exact h.dclInj l l' (hS l hl e) (hS l' hl' e') he
    dep := fun l hl => by
      obtain ⟨ks, hg, _⟩ := h.gmap
      by_cases e : l = own p rd
      · subst e; simpa using hd
      · simp only [if_neg e]
        have h1 := h.dep l (hS l hl e)
        exact hf.heap h1 (h.maps l (hS l hl e)).1
    depGe := fun l hl => by
      by_cases e : l = own p rd
      · simp [e]; omega
      · simp only [if_neg e]; exact h.depGe l (hS l hl e)
    depInj := fun l l' hl hl' he => by
      by_cases e : l = own p rd <;> by_cases e' : l' = own p rd
      · omega
      · simp only [e, if_true, if_neg e'] at he; have := h.depLt (hS l' hl' e'); omega
      · simp only [e', if_true, if_neg e] at he; have := h.depLt (hS l hl e); omega
      · simp only [if_neg e, if_neg e'] at he; exact h.depInj l l' (hS l hl e) (hS l' hl' e') he
    lone := fun l hl hl1 => by
      by_cases e : l = own p rd
      · subst e; simpa using hlone hl1
      · simp only [if_neg e]; exact h.lone l (hS l hl e) hl1
    lhs := fun l hl hl1 => by
      obtain ⟨ks, hg, _⟩ := h.gmap
      by_cases e : l = own p rd
      · subst e
        have e1 : laidN p (own p rd) (rd + 1) = 1 := by unfold laidN; omega
        rw [e1, hst]
        simpa using hlhs hl1
      · simp only [if_neg e]
        obtain ⟨e1, e2⟩ := laid_done (hS l hl e) e
        have h1 := h.lhs l (hS l hl e) hl1
        rw [e1]; rw [e2] at h1
        exact h1.fr hf (fun b hb => by obtain ⟨cur, hc⟩ := h1.row hb; exact fun e' => hg.ne hc e'.symm)
    lhsSep := fun l l' hl hl' hne1 h1 h1' b hb hb' => by
      by_cases e : l = own p rd <;> by_cases e' : l' = own p rd
      · omega
      · simp only [e, if_true] at hb
        simp only [if_neg e'] at hb'
        have := hsep b hb
        have := (h.lhs l' (hS l' hl' e') h1').blk b hb'
        omega
      · simp only [e', if_true] at hb'
        simp only [if_neg e] at hb
        have := hsep b hb'
        have := (h.lhs l (hS l hl e) h1).blk b hb
        omega
      · simp only [if_neg e] at hb
        simp only [if_neg e'] at hb'
        exact h.lhsSep l l' (hS l hl e) (hS l' hl' e') hne1 h1 h1' b hb hb'
    omap := by
      refine (h.omap.fr hf h.two).congr (fun _ _ => rfl) (fun i hi => ?_) h.omap.2.1
      simp at hi
      have : own p i ≠ own p rd := hne _ (started_own (by omega) hi)
      simp [this]
    gmap := by
      obtain ⟨ks, hks, h1⟩ := hgm
      by_cases hk : (it p (own p rd)).kind = 1
      · rw [if_pos hk] at h1
        have hnk : own p rd + 1 ∉ ks := fun hc => hne _ ((hks _).1 hc).2.1 (by simp)
        have h0 : ∀ k ∈ putKs ks (own p rd + 1), k < p.length + 1 := h1.2.1
        refine ⟨_, h1.congr (fun _ _ => rfl) (fun k hk' => ?_) h0, fun k => ?_⟩
        · simp only [putVal]
          by_cases e : k = own p rd + 1
          · simp [e]
          · rw [if_neg e]
            have : k - 1 ≠ own p rd := by
              have h2 : k ∈ ks := by simp only [putKs, if_neg hnk, List.mem_append, List.mem_singleton] at hk'; exact hk'.resolve_right e
              have := ((hks _).1 h2).1
              omega
            simp [this]
        · simp only [putKs, if_neg hnk, List.mem_append, List.mem_singleton, hks, started_succ hK hr]
          constructor
          · rintro (⟨a, b, c⟩ | rfl)
            · exact ⟨a, .inl b, c⟩
            · exact ⟨by omega, .inr ⟨by simp, hst⟩, by simpa using hk⟩
          · rintro ⟨a, b | b, c⟩
            · exact .inl ⟨a, b, c⟩
            · exact .inr (by omega)
      · rw [if_neg hk] at h1
        refine ⟨ks, h1.congr (fun _ _ => rfl) (fun k hk' => ?_) h1.2.1, fun k => ?_⟩
        · have := hne _ ((hks _).1 hk').2.1
          simp [this]
        · rw [hks, started_succ hK hr]
          constructor
          · rintro ⟨a, b, c⟩; exact ⟨a, .inl b, c⟩
          · rintro ⟨a, b | b, c⟩
            · exact ⟨a, b, c⟩
            · rw [b.1] at c; exact absurd c hk
    two := h.two
    maps := fun l hl => by
      obtain ⟨ks, hg, _⟩ := h.gmap
      by_cases e : l = own p rd
      · have := hg.lt
        have := h.omap.lt
        simp only [e, if_true]
        omega
      · simp only [if_neg e]; exact h.maps l (hS l hl e) }

/-- One variable more of a declaration of several. -/
theorem Lr.addLater (h : Lr B p m L om gm g (rd + 1) rd rd w) (hK : KOk p) (hr : rd < cnt p) (hst : start p (own p rd) < rd) (hk : (it p (own p rd)).kind = 1)
    (hf : Fr (fun b => b = g.dc (own p rd) ∨ (g.lh (own p rd)).ownBlock = some b) w w') {lh1 : Value}
    (hc : w'.heap[g.dc (own p rd)]? = some (.cells #[lh1, .bool (it p (own p rd)).ini, .map (some (g.dm (own p rd)))] 115 (0, 0)))
    (hlhs : Own w' (fun b => B ≤ b) 102 1 lh1 (rd - start p (own p rd) + 1) ((List.range' (start p (own p rd)) (rd - start p (own p rd))).map (fun r => ptr (g.ob r)) ++ [ptr (g.ob rd)]))
    (hsep : ∀ b, lh1.ownBlock = some b → (g.lh (own p rd)).ownBlock = some b ∨ w.heap.size ≤ b) :
    Lr B p m L om gm { g with lh := fun j => if j = own p rd then lh1 else g.lh j } (rd + 1) (rd + 1) rd w' := by
  obtain ⟨hk1, hk2, hk3⟩ := own_spec hr
  have hS : ∀ l, Started p l (rd + 1) ↔ Started p l rd := fun l => started_same hK hr hst
  have hme : Started p (own p rd) rd := ⟨hk1, hst⟩
  have hS2 : ∀ b c t, w.heap[b]? = some (.cells c t (0, 0)) → t ≠ 115 → t ≠ 102 → ¬ (b = g.dc (own p rd) ∨ (g.lh (own p rd)).ownBlock = some b) := fun b c t hb h1 h2 h3 => by
    rcases h3 with h3 | h3
    · exact ne_cells hb (h.dcl _ hme) h1 h3
    · obtain ⟨cur, hc⟩ := (h.lhs _ hme hk).row h3
      exact ne_cells hb hc h2 rfl
  have hS3 : ∀ b, (∃ es k, w.heap[b]? = some (.map es k)) → ¬ (b = g.dc (own p rd) ∨ (g.lh (own p rd)).ownBlock = some b) := fun b ⟨es, k, hb⟩ h3 => by
    rcases h3 with h3 | h3
    · exact ne_map (h.dcl _ hme) hb h3.symm
    · obtain ⟨cur, hc⟩ := (h.lhs _ hme hk).row h3
      exact ne_map hc hb rfl
  exact {
    obj := fun i hi => hf.heap (h.obj i hi) (hS2 _ _ _ (h.obj i hi) (by rcases tyE_cases p i with e | e | e <;> rw [e] <;> decide) (by rcases tyE_cases p i with e | e | e <;> rw [e] <;> decide))
    objGe := h.objGe
    objInj := h.objInj
    row := by
      obtain ⟨ls, h1, h2⟩ := h.row
      exact ⟨ls, hf.heap h1 (hS2 _ _ _ h1 (by decide) (by decide)), h2⟩
    dcl := fun l hl => by
      by_cases e : l = own p rd
      · subst e; simpa using hc
      · simp only [if_neg e]
        have hl := (hS l).1 hl
        refine hf.heap (h.dcl l hl) (fun h3 => ?_)
        rcases h3 with h3 | h3
        · exact e (h.dclInj _ _ hl hme h3)
        · obtain ⟨cur, hc⟩ := (h.lhs _ hme hk).row h3
          exact ne_cells (h.dcl l hl) hc (by decide) rfl
    dclGe := fun l hl => h.dclGe l ((hS l).1 hl)
    dclInj := fun l l' hl hl' => h.dclInj l l' ((hS l).1 hl) ((hS l').1 hl')
    dep := fun l hl => hf.heap (h.dep l ((hS l).1 hl)) (hS3 _ ⟨_, _, h.dep l ((hS l).1 hl)⟩)
    depGe := fun l hl => h.depGe l ((hS l).1 hl)
    depInj := fun l l' hl hl' => h.depInj l l' ((hS l).1 hl) ((hS l').1 hl')
    lone := fun l hl hl1 => by
      by_cases e : l = own p rd
      · subst e; exact absurd hk hl1
      · simp only [if_neg e]; exact h.lone l ((hS l).1 hl) hl1
    lhs := fun l hl hl1 => by
      by_cases e : l = own p rd
      · subst e
        have e1 : laidN p (own p rd) (rd + 1) = rd - start p (own p rd) + 1 := by unfold laidN; omega
        rw [e1]
        have e2 : List.range' (start p (own p rd)) (rd - start p (own p rd) + 1) = List.range' (start p (own p rd)) (rd - start p (own p rd)) ++ [rd] := by
          rw [List.range'_concat]; congr 2; omega
        rw [e2, List.map_append]
        simpa using hlhs
      · simp only [if_neg e]
        obtain ⟨e1, e2⟩ := laid_done ((hS l).1 hl) e
        have h1 := h.lhs l ((hS l).1 hl) hl1
        rw [e1]; rw [e2] at h1
        refine h1.fr hf (fun b hb h3 => ?_)
        rcases h3 with h3 | h3
        · obtain ⟨cur, hc⟩ := h1.row hb
          exact ne_cells hc (h.dcl _ hme) (by decide) h3
        · exact h.lhsSep l _ ((hS l).1 hl) hme e hl1 hk b hb h3
    lhsSep := fun l l' hl hl' hne1 h1 h1' b hb hb' => by
      have hl := (hS l).1 hl
      have hl' := (hS l').1 hl'
      by_cases e : l = own p rd <;> by_cases e' : l' = own p rd
      · omega
      · simp only [e, if_true] at hb
        simp only [if_neg e'] at hb'
        rcases hsep b hb with h3 | h3
        · exact h.lhsSep _ _ hme hl' (fun x => e' x.symm) hk h1' b h3 hb'
        · have := (h.lhs l' hl' h1').blk b hb'
          omega
      · simp only [e', if_true] at hb'
        simp only [if_neg e] at hb
        rcases hsep b hb' with h3 | h3
        · exact h.lhsSep _ _ hl hme e h1 hk b hb h3
        · have := (h.lhs l hl h1).blk b hb
          omega
      · simp only [if_neg e] at hb
        simp only [if_neg e'] at hb'
        exact h.lhsSep l l' hl hl' hne1 h1 h1' b hb hb'
    omap := by
      obtain ⟨a, b, es, k, hm, c⟩ := h.omap
      exact h.omap.fr hf (hS3 _ ⟨_, _, hm⟩)
    gmap := by
      obtain ⟨ks, hg, hks⟩ := h.gmap
      obtain ⟨a, b, es, k, hm, c⟩ := hg
      refine ⟨ks, NMap.fr (h := ⟨a, b, es, k, hm, c⟩) hf (hS3 _ ⟨_, _, hm⟩), fun k => ?_⟩
      rw [hks, hS]
    two := h.two
    maps := fun l hl => h.maps l ((hS l).1 hl) }

/-- The object's entry. -/
theorem Lr.addEntry (h : Lr B p m L om gm g (rd + 1) (rd + 1) rd w) (hf : Fr (fun b => b = om) w w')
    (ho : NMap w' om (g.enc p) (rd + 1) (putKs (List.range rd) rd) (putVal (fun i => ptr (g.dc (own p i))) rd (ptr (g.dc (own p rd))))) : Lr B p m L om gm g (rd + 1) (rd + 1) (rd + 1) w' where
  obj i hi := hf.heap (h.obj i hi) (fun e => h.omap.ne (h.obj i hi) e.symm)
  objGe := h.objGe
  objInj := h.objInj
  row := by
    obtain ⟨ls, h1, h2⟩ := h.row
    exact ⟨ls, hf.heap h1 (fun e => h.omap.ne h1 e.symm), h2⟩
  dcl k hk := hf.heap (h.dcl k hk) (fun e => h.omap.ne (h.dcl k hk) e.symm)
  dclGe := h.dclGe
  dclInj := h.dclInj
  dep k hk := hf.heap (h.dep k hk) (h.maps k hk).2
  depGe := h.depGe
  depInj := h.depInj
  lone := h.lone
  lhs k hk h1 := (h.lhs k hk h1).fr hf (fun b hb e => by obtain ⟨cur, hc⟩ := (h.lhs k hk h1).row hb; exact h.omap.ne hc e.symm)
  lhsSep := h.lhsSep
  omap := by
    have e : putKs (List.range rd) rd = List.range (rd + 1) := by simp [putKs, List.range_succ]
    rw [e] at ho
    refine ho.congr (fun _ _ => rfl) (fun k hk => ?_) ho.2.1
    simp only [putVal]
    by_cases e : k = rd
    · simp [e]
    · simp [e]
  gmap := by
    obtain ⟨ks, hg, hks⟩ := h.gmap
    exact ⟨ks, hg.fr hf (fun e => h.two e.symm), hks⟩
  two := h.two
  maps := h.maps
end
end Go.Proofs.YtelfaljidgfphaaGreat
