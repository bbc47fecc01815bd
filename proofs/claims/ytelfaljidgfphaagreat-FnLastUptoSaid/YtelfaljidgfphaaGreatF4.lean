/-
  The walk of 'initOrder'.
-/
import Derived.Test.YtelfaljidgfphaaGreatF3
import Derived.StillTailTactics
import Derived.Deep.RegionHeld3
import Derived.Deep.RegionLaw
namespace Go.Proofs.YtelfaljidgfphaaGreat
open Go.RowKit

/-- What stands beside the queue: which declarations have been told, and the list of initializers. -/
structure Rst (p : List It) (g : Gh) (em ib : Nat) (w0 : World) (eks : List Nat) (v : Value) (wr : World) : Prop where
  emap : NMap wr em (fun k => ptr (g.dc k)) p.length eks (fun _ => .bool true)
  ibr : wr.heap[ib]? = some (.cells #[v] 97 (0, 0))
  inits : Inits p g w0.heap.size v eks wr
  fr : Fr (fun b => b = ib) w0 wr

theorem Rst.step {p : List It} {g : Gh} {em ib : Nat} {w0 : World} {eks : List Nat} {v : Value} {wr w2 : World} {S : Nat → Prop} (h : Rst p g em ib w0 eks v wr) (hf : Fr S wr w2) (hS : ∀ b, S b → w0.heap.size ≤ b)
    (hT : ∀ b cur t, wr.heap[b]? = some (.cells cur t (0, 0)) → t = 97 ∨ t = 98 ∨ t = 101 ∨ t = 102 → ¬ S b) (hM : ¬ S em) : Rst p g em ib w0 eks v w2 where
  emap := h.emap.fr hf hM
  ibr := hf.heap h.ibr (hT _ _ _ h.ibr (.inl rfl))
  inits := h.inits.fr hf (fun b cur t hb ht => hT b cur t hb (.inr ht))
  fr := h.fr.step hf (fun i hi hs => by have := hS i hs; omega)
theorem Rst.gr {p : List It} {g : Gh} {em ib : Nat} {w0 : World} {eks : List Nat} {v : Value} {wr w2 : World} (h : Rst p g em ib w0 eks v wr) (hf : Gr wr w2) : Rst p g em ib w0 eks v w2 :=
  h.step hf (fun _ h => h.elim) (fun _ _ _ _ _ h => h) (fun h => h)
theorem Rst.iter {p : List It} {g : Gh} {em ib : Nat} {w0 : World} {eks : List Nat} {v : Value} {wr w2 : World} (h : Rst p g em ib w0 eks v wr) {it : Nat} (hi : ∃ a b' c d, wr.heap[it]? = some (.mapIter a b' c d)) (hf : Fr (fun b => b = it) wr w2) (hge : w0.heap.size ≤ it) : Rst p g em ib w0 eks v w2 := by
  obtain ⟨a, b', c, d, h3⟩ := hi
  refine h.step hf (fun b e => e ▸ hge) (fun b cur t hb _ e => ?_) (fun e => ?_)
  · subst e; rw [hb] at h3; cases h3
  · obtain ⟨_, _, es, k, h4, _⟩ := h.emap
    rw [e, h3] at h4
    cases h4

section
variable {p : List It} {B : Nat} {g : Gh} {nd : Nat → Nat} {mb : Bool → Nat → Option Nat} {ks : Bool → Nat → List Nat} {dp : Nat → Int} {pq : Nat} {A : Option Addr} {c : Nat} {q : List Nat} {w wr w2 : World} {em ib : Nat} {w0 : World} {eks : List Nat} {v : Value}
theorem Rst.atQ (h : Rst p g em ib w0 eks v wr) (hq : Qu p B g nd mb ks dp pq A c q wr) (hge : ∀ b, AtQ (cnt p) nd pq A b → w0.heap.size ≤ b) (hf : Fr (AtQ (cnt p) nd pq A) wr w2) : Rst p g em ib w0 eks v w2 :=
  h.step hf hge (fun b cur t hb ht => hq.atNe hb (by
    refine ⟨?_, ?_, ?_⟩ <;> (intro e; subst e; revert ht; decide))) (hq.atNeMap h.emap)

theorem Qu.ge (h : Qu p B g nd mb ks dp pq A c q w) {m : Nat} (hB : m ≤ B) (hp : m ≤ pq) : ∀ b, AtQ (cnt p) nd pq A b → m ≤ b := by
  obtain ⟨ix, hgs, _⟩ := h.gs
  rintro b (⟨r, hr, rfl⟩ | rfl | ⟨a, rfl, rfl⟩)
  · have := hgs.ge r hr; omega
  · exact hp
  · have := (h.row.blk a.block rfl).1; omega
end

/-- What is left to be told of x's dependants, and all that stands beside. -/
def IRel2 (p : List It) (B : Nat) (g : Gh) (nd : Nat → Nat) (mb : Bool → Nat → Option Nat) (ks : Bool → Nat → List Nat) (pq : Nat) (A : Option Addr) (c x it : Nat) (dp0 : Nat → Int) (q1 : List Nat) (em ib : Nat) (w0 : World) (eks : List Nat) (v : Value) (k : Nat) (wr : World) : Prop :=
  ∃ (rem : List Nat) (dp : Nat → Int) (q : List Nat), rem.length = k ∧ SIter wr it (mb false x) (fun i => ptr (nd i)) (cnt p) (ks false x) rem ∧ Qu p B g nd mb ks dp pq A c q wr ∧ HeapF 0 q.length (keyAt p dp q) ∧ q.Perm q1 ∧
    (∀ r, dp r = dp0 r - if r ∈ ks false x ∧ r ∉ rem then 1 else 0) ∧ Rst p g em ib w0 eks v wr

def IRel (p : List It) (B : Nat) (g : Gh) (nd : Nat → Nat) (mb : Bool → Nat → Option Nat) (ks : Bool → Nat → List Nat) (pq : Nat) (A : Option Addr) (c em ib : Nat) (w0 : World) (k : Nat) (wr : World) : Prop :=
  ∃ (cs L q eks : List Nat) (dp : Nat → Int) (v : Value), q.length = k ∧ Qu p B g nd mb ks dp pq A c q wr ∧ HeapF 0 q.length (keyAt p dp q) ∧ Pst p ks cs L q dp ∧ Told p L eks ∧ Rst p g em ib w0 eks v wr

/-- What 'initOrder' leaves. -/
def PInit (p : List It) (g : Gh) (ib : Nat) (w0 : World) (e : Ending) (w' : World) : Prop :=
  e = .returned (.tuple #[]) ∧ ∃ (L eks : List Nat) (v : Value), Gdy (Vn p) (Nn p) L ∧ FullG (Vn p) L ∧ eks.map (objs p) = emit p L ∧ eks.Nodup ∧ (∀ k ∈ eks, k < p.length) ∧ w'.heap[ib]? = some (.cells #[v] 97 (0, 0)) ∧ Inits p g w0.heap.size v eks w' ∧ Fr (fun b => b = ib) w0 w'

theorem assert_node (v : Value) (w : World) : (Instr.typeAssert (.iface 83 v) 20 83 false).run Tryz.prog w = .ok v w := by
  simp [Instr.typeAssert, run_underlying Tryz.underlying83]
theorem assert_not102 {p : List It} {x : Nat} (h : tyI p x = 111) (v : Value) (w : World) : (Instr.typeAssert (.iface (tyI p x) v) 85 102 true).run Tryz.prog w = .ok (.tuple #[.pointer none, .bool false]) w := by
  rw [h]
  simp [Instr.typeAssert, run_underlying Tryz.underlying102, zero102 w]
theorem assert_is102 {p : List It} {x : Nat} (h : tyI p x = 102) (v : Value) (w : World) : (Instr.typeAssert (.iface (tyI p x) v) 85 102 true).run Tryz.prog w = .ok (.tuple #[v, .bool true]) w := by
  rw [h]
  simp [Instr.typeAssert, run_underlying Tryz.underlying102]
theorem tyI_var {p : List It} {x : Nat} (h : (it p (own p x)).var = true) : tyI p x = 102 := by
  unfold It.var at h
  simp only [Bool.or_eq_true, beq_iff_eq] at h
  unfold tyI
  rw [if_neg (by omega), if_neg (by omega)]

set_option maxRecDepth 100000 in
/-- 'info.hasInitializer()' -/
theorem hasInit_any (w : World) (b : Nat) (i : Bool) (h : w.cell? ⟨b, 1, none⟩ = some (.bool i)) : Calls Tryz.prog 74 #[.pointer (some ⟨b, 0, none⟩)] w (fun e w' => e = .returned (.bool i) ∧ w' = w) := by
  go_enter Tryz.func74, Tryz.ntmps74
  go_wp2
  go_ret
  exact ⟨rfl, rfl⟩
/-- An append whose run is known, at a step of a region that draws. -/
theorem step_appended {P : Program} {w : World} {ops : Array Oper} {o : Oper} {a : Act} {K : Act → World → Prop} {Q : Exit → Act → World → Prop} {E : Prop} (hgd : o.guard = none) (s x : Operand) (t t' : TypeId)
    (ho : o.op = .call { callee := .builtin .append, args := #[s, x], argTypes := #[t, t'] }) {v xv v2 : Value} {w2 : World} (hs : a.eval s = v) (hx : a.eval x = xv)
    (hrun : Hid ((Builtin.append_ #[t, t'] o.type #[v, xv]).run P w = .ok v2 w2)) (h : K (a.put o.dst v2) w2) : if Region.wanted o (yielded ops a.tmps) = true then Oper.wp P o a w K Q else E := by
  have hw : Region.wanted o (yielded ops a.tmps) = true := by simp [Region.wanted, hgd]
  rw [if_pos hw]
  unfold Oper.wp execOp
  simp only [ho, resolve, invoke, builtin, Sem.run_bind, Sem.run_pure, Result.andThen_ok, List.map_toArray, List.map_cons, List.map_nil, hs, hx, hrun.out]
  exact h

theorem info98 : (Tryz.prog.info? 98).map (fun i => (i.zero, i.size, i.bytes)) = some (some (.pointer none), 1, 8) := by kernel_rfl
theorem elem98 : ElemOk Tryz.prog 98 (.pointer none) 1 8 := ElemOk.mk' info98 rfl (by decide)
theorem len_le_cnt {p : List It} (hK : KOk p) : p.length ≤ cnt p := by
  have : ∀ k, k ≤ p.length → k ≤ start p k := by
    intro k
    induction k with
    | zero => intro _; omega
    | succ k ih =>
      intro hk
      have := ih (by omega)
      have h1 := start_succ (it_get (p := p) (k := k) (by omega))
      have h2 := (n_pos hK (it_mem (p := p) (k := k) (by omega))).1
      omega
  have h := this p.length (Nat.le_refl _)
  rwa [start_length] at h

section
variable {p : List It} {B : Nat} {g : Gh} {nd : Nat → Nat} {mb : Bool → Nat → Option Nat} {ks : Bool → Nat → List Nat} {dp : Nat → Int} {pq : Nat} {A : Option Addr} {c : Nat} {q : List Nat} {w6 w7 w9 : World} {em ib : Nat} {w0 : World} {eks eks' : List Nat} {v : Value}
theorem Qu.frMap (h : Qu p B g nd mb ks dp pq A c q w6) {enc : Nat → Value} {n : Nat} {l : List Nat} {val : Nat → Value} (hm : NMap w6 em enc n l val) (hs : ∀ c r b, r < cnt p → mb c r = some b → b ≠ em) (hf : Fr (fun b => b = em) w6 w7) : Qu p B g nd mb ks dp pq A c q w7 where
  gs := by
    obtain ⟨ix, hgs, h2⟩ := h.gs
    exact ⟨ix, hgs.fr hf (fun r hr e => hm.ne (hgs.node r hr) e.symm) (fun cc r b hr hb => hs cc r b hr hb), h2⟩
  box := hf.heap h.box (fun e => hm.ne h.box e.symm)
  row := h.row.fr hf (fun b hb e => by obtain ⟨cur, hc⟩ := h.row.row hb; exact hm.ne hc e.symm)
  obj r hr := hf.heap (h.obj r hr) (fun e => hm.ne (h.obj r hr) e.symm)
  mem := h.mem
  nodup := h.nodup
  dpb := h.dpb

theorem Qu.frT (h : Qu p B g nd mb ks dp pq A c q w6) {S : Nat → Prop} (hS : ∀ b, S b → ∃ cur t, w6.heap[b]? = some (.cells cur t (0, 0)) ∧ (t = 97 ∨ t = 98)) (hf : Fr S w6 w7) : Qu p B g nd mb ks dp pq A c q w7 := by
  have hne : ∀ b cur t, w6.heap[b]? = some (.cells cur t (0, 0)) → t ≠ 97 → t ≠ 98 → ¬ S b := fun b cur t hb h1 h2 hs => by
    obtain ⟨cur', t', h3, h4⟩ := hS b hs
    rw [hb] at h3
    injection h3 with h3
    injection h3 with h5 h6
    subst h6
    exact h4.elim h1 h2
  obtain ⟨ix, hgs, h2⟩ := h.gs
  exact {
    gs := ⟨ix, hgs.fr hf (fun r hr => hne _ _ _ (hgs.node r hr) (by decide) (by decide)) (fun cc r b hr hb hs => by
      obtain ⟨cur', t', h3, _⟩ := hS b hs
      exact (hgs.set cc r b hr hb).1.ne h3 rfl), h2⟩
    box := hf.heap h.box (hne _ _ _ h.box (by decide) (by decide))
    row := h.row.fr hf (fun b hb => by obtain ⟨cur, hc⟩ := h.row.row hb; exact hne _ _ _ hc (by decide) (by decide))
    obj := fun r hr => hf.heap (h.obj r hr) (hne _ _ _ (h.obj r hr) (by rcases tyE_cases p r with e | e | e <;> rw [e] <;> decide) (by rcases tyE_cases p r with e | e | e <;> rw [e] <;> decide))
    mem := h.mem
    nodup := h.nodup
    dpb := h.dpb }

/-- The initializer is laid. -/
theorem told_begin (hq : Qu p B g nd mb ks dp pq A c q w6) (he : NMap w6 em (fun k => ptr (g.dc k)) p.length eks' (fun _ => .bool true)) (hib : w6.heap[ib]? = some (.cells #[v] 97 (0, 0))) (hin : Inits p g w0.heap.size v eks w6) (hfr : Fr (fun b => b = ib) w0 w6)
    {ok : Nat → Prop} {sl : Value} {n : Nat} {cs : List Value} (hl : Own w6 ok 102 1 sl n cs) :
    Qu p B g nd mb ks dp pq A c q (w6.alloc (.cells #[sl] 101)) ∧ NMap (w6.alloc (.cells #[sl] 101)) em (fun k => ptr (g.dc k)) p.length eks' (fun _ => .bool true) ∧ (w6.alloc (.cells #[sl] 101)).heap[ib]? = some (.cells #[v] 97 (0, 0)) ∧ Inits p g w0.heap.size v eks (w6.alloc (.cells #[sl] 101)) ∧
      Fr (fun b => b = ib) w0 (w6.alloc (.cells #[sl] 101)) ∧ (w6.alloc (.cells #[sl] 101)).heap[w6.heap.size]? = some (.cells #[sl] 101 (0, 0)) ∧ Own (w6.alloc (.cells #[sl] 101)) (fun _ => True) 102 1 sl n cs := by
  have hg := (Gr.refl w6).alloc (.cells #[sl] 101)
  exact ⟨hq.gr hg, he.fr hg id, Fr.heap hg hib id, hin.fr hg (fun _ _ _ _ _ => id), hfr.trans (hg.mono fun _ _ h => h.elim), heap_alloc_new w6 _, (hl.gr hg).mono fun _ _ _ _ => trivial⟩

/-- .. and told. -/
theorem told_end {k a : Nat} {sl v9 : Value} {ads : List Nat} (hq : Qu p B g nd mb ks dp pq A c q w7) (he : NMap w7 em (fun k => ptr (g.dc k)) p.length (eks ++ [k]) (fun _ => .bool true)) (hib : w7.heap[ib]? = some (.cells #[v] 97 (0, 0))) (hin : Inits p g w0.heap.size v eks w7) (hfr : Fr (fun b => b = ib) w0 w7)
    (hrow : w7.heap[a]? = some (.cells #[sl] 101 (0, 0))) (hl : Own w7 (fun _ => True) 102 1 sl (it p k).n ((objs p k).map fun r => ptr (g.ob r))) (had : ads.length = eks.length)
    (hads : ∀ (i a k : Nat), ads[i]? = some a → eks[i]? = some k → w0.heap.size ≤ a ∧ ∃ sl, w7.heap[a]? = some (.cells #[sl] 101 (0, 0)) ∧ Own w7 (fun _ => True) 102 1 sl (it p k).n ((objs p k).map fun r => ptr (g.ob r)))
    (ho9 : Own w9 (fun b => w0.heap.size ≤ b) 98 1 v9 (eks.length + 1) (ads.map ptr ++ [ptr a])) (hf9 : Fr (fun b => v.ownBlock = some b) w7 w9) (ha : w0.heap.size ≤ a) :
    Qu p B g nd mb ks dp pq A c q (w9.setCell ⟨ib, 0, none⟩ v9) ∧ Rst p g em ib w0 (eks ++ [k]) v9 (w9.setCell ⟨ib, 0, none⟩ v9) ∧
      ∀ (cb : Nat) (cur : Array Value) (u : Value), w7.cell? ⟨cb, 1, none⟩ = some u → w7.heap[cb]? = some (.cells cur 82 (0, 0)) → w9.heap[ib]? = some (.cells #[v] 97 (0, 0)) ∧ w9.cell? ⟨cb, 1, none⟩ = some u := by
  obtain ⟨ads', -, hv, -⟩ := hin
  have hvr : ∀ b, v.ownBlock = some b → ∃ cur, w7.heap[b]? = some (.cells cur 98 (0, 0)) := fun b hb => hv.row hb
  have hvge : ∀ b, v.ownBlock = some b → w0.heap.size ≤ b := fun b hb => (hv.blk b hb).1
  have hne : ∀ b cur t, w7.heap[b]? = some (.cells cur t (0, 0)) → t ≠ 98 → ¬ v.ownBlock = some b := fun b cur t hb ht hs => by
    obtain ⟨cur', h3⟩ := hvr b hs
    exact ne_cells hb h3 ht rfl
  have hib9 := hf9.heap hib (hne _ _ _ hib (by decide))
  have hfs := fr_set w9 ib 0 v9
  have ho9r : ∀ b, v9.ownBlock = some b → ¬ b = ib := fun b hb e => by
    obtain ⟨cur, hc⟩ := ho9.row hb
    exact ne_cells hc hib9 (by decide) e
  have hent : ∀ {a : Nat} {sl : Value} {k : Nat}, w7.heap[a]? = some (.cells #[sl] 101 (0, 0)) → Own w7 (fun _ => True) 102 1 sl (it p k).n ((objs p k).map fun r => ptr (g.ob r)) →
      (w9.setCell ⟨ib, 0, none⟩ v9).heap[a]? = some (.cells #[sl] 101 (0, 0)) ∧ Own (w9.setCell ⟨ib, 0, none⟩ v9) (fun _ => True) 102 1 sl (it p k).n ((objs p k).map fun r => ptr (g.ob r)) := by
    intro a sl k h1 h2
    have h3 := hf9.heap h1 (hne _ _ _ h1 (by decide))
    refine ⟨hfs.heap h3 (ne_cells h3 hib9 (by decide)), ?_⟩
    have h4 := h2.fr hf9 (fun b hb => by obtain ⟨cur, hc⟩ := h2.row hb; exact hne _ _ _ hc (by decide))
    exact h4.fr hfs (fun b hb e => by obtain ⟨cur, hc⟩ := h4.row hb; exact ne_cells hc hib9 (by decide) e)
  refine ⟨?_, ?_, fun cb cur u hc hcr => ⟨hib9, hf9.cell hc (hne _ _ _ hcr (by decide))⟩⟩
  · have h1 := hq.frT (S := fun b => v.ownBlock = some b) (fun b hb => by obtain ⟨cur, hc⟩ := hvr b hb; exact ⟨cur, _, hc, .inr rfl⟩) hf9
    exact h1.frT (S := fun b => b = ib) (fun b hb => ⟨_, _, hb ▸ hib9, .inl rfl⟩) hfs
  · exact {
      emap := (he.fr hf9 (fun h => by obtain ⟨cur, hc⟩ := hvr _ h; exact he.ne hc rfl)).fr hfs (fun e => he.ne hib e)
      ibr := by rw [heap_setCell_same _ _ _ _ _ _ hib9]; rfl
      inits := by
        refine ⟨ads ++ [a], by simp [had], ?_, fun i a' k' hi hk => ?_⟩
        · have := ho9.fr hfs ho9r
          simpa using this
        · by_cases hlt : i < ads.length
          · rw [List.getElem?_append_left hlt] at hi
            rw [List.getElem?_append_left (by omega)] at hk
            obtain ⟨h1, sl', h2, h3⟩ := hads i a' k' hi hk
            obtain ⟨h4, h5⟩ := hent h2 h3
            exact ⟨h1, sl', h4, h5⟩
          · rw [List.getElem?_append_right (by omega)] at hi hk
            have hi0 : i - ads.length = 0 := by
              have := (List.getElem?_eq_some_iff.1 hi).1
              simp at this; omega
            have hi1 : i - eks.length = 0 := by omega
            rw [hi0] at hi
            rw [hi1] at hk
            simp at hi hk
            subst hi; subst hk
            obtain ⟨h4, h5⟩ := hent hrow hl
            exact ⟨ha, sl, h4, h5⟩
      fr := (hfr.step hf9 (fun i hi hs => by have := hvge i hs; omega)).trans hfs }
end
theorem eql99_some (a : Addr) (n c : Nat) (u : World) : (binOp BinOp.eql 99 (.slice (some a) n c) (.slice none 0 0)).run Tryz.prog u = .ok (.bool false) u := by
  have h : (Op.equal 99 (.slice (some a) n c) (.slice none 0 0)).run Tryz.prog u = .ok false u := by
    show (Op.equalIn (9999 + 1) 99 _ _).run Tryz.prog u = _
    rw [Op.equalIn]
    simp [run_underlying Tryz.underlying99]
  simp [binOp, h]
theorem eql99_nil (u : World) : (binOp BinOp.eql 99 (.slice none 0 0) (.slice none 0 0)).run Tryz.prog u = .ok (.bool true) u := by
  have h : (Op.equal 99 (.slice none 0 0) (.slice none 0 0)).run Tryz.prog u = .ok true u := by
    show (Op.equalIn (9999 + 1) 99 _ _).run Tryz.prog u = _
    rw [Op.equalIn]
    simp [run_underlying Tryz.underlying99]
  simp [binOp, h]
theorem und95 : Tryz.prog.underlying 95 = some (.slice 98) := Tryz.underlying95
theorem slice_nil (u : World) : (Instr.slice 95 (.slice none 0 0) none (some (.int .i64 0)) none).run Tryz.prog u = .ok (.slice none 0 0) u := by kernel_rfl

set_option maxHeartbeats 8000000 in
set_option maxRecDepth 100000 in
/-- 'check.initOrder()' -/
theorem initOrder_any (w : World) (B0 L0 om cb ib : Nat) (p : List It) (g : Gh) (ksB : Nat → List Nat) (hb : Built B0 p L0 om g ksB w) (hks : ∀ k d, k < p.length → (d ∈ ksB k ↔ (d : Int) ∈ (it p k).refs)) (hcnt : cnt p ≤ 209715200) (hK : KOk p) (hr : ROk p)
    (hF : ∀ r, r < cnt p → kindAt p r = 4 → ¬ Rch p fAll (own p r) r) (hA : Acy p) (zcb : w.heap[cb]? = some (.cells #[.map (some om), .pointer (some ⟨ib, 0, none⟩), .slice none 0 0] 82 (0, 0))) (zib : w.heap[ib]? = some (.cells #[.slice none 0 0] 97 (0, 0))) :
    Calls Tryz.prog 62 #[.pointer (some ⟨cb, 0, none⟩)] w (PInit p g ib w) := by
  have c0 : w.cell? ⟨cb, 0, none⟩ = some (.map (some om)) := by rw [cell_row zcb]; rfl
  have c1 : w.cell? ⟨cb, 1, none⟩ = some (.pointer (some ⟨ib, 0, none⟩)) := by rw [cell_row zcb]; rfl
  have i0 : w.cell? ⟨ib, 0, none⟩ = some (.slice none 0 0) := by rw [cell_row zib]; rfl
  have if0 := frozen_row zib
  have hsl := slice_nil
  have hq99 := eql99_some
  have hq98 := eql99_nil
  have hmk := fun t u => run_makeMap (P := Tryz.prog) t u
  have hfA : Fr (fun b => b = ib) w (w.drew.setCell ⟨ib, 0, none⟩ (.slice none 0 0)) := (Fr.refl _ w).drew.trans (fr_set w.drew ib 0 (.slice none 0 0))
  have hne : cb ≠ ib := ne_cells zcb zib (by decide)
  have zcbA := hfA.heap zcb hne
  have cA : (w.drew.setCell ⟨ib, 0, none⟩ (.slice none 0 0)).cell? ⟨cb, 0, none⟩ = some (.map (some om)) := by rw [cell_row zcbA]; rfl
  have hbA := hb.frCell zib rfl hfA
  have zibA : (w.drew.setCell ⟨ib, 0, none⟩ (.slice none 0 0)).heap[ib]? = some (.cells #[.slice none 0 0] 97 (0, 0)) := by rw [heap_setCell_same w.drew _ _ _ _ _ zib]; rfl
  have hsA : (w.drew.setCell ⟨ib, 0, none⟩ (.slice none 0 0)).heap.size = w.heap.size := by simp [World.setCell]
  have Hfin : Hid (∀ (B : Nat) (lg : List Nat) (A : Option Addr) (c : Nat) (nd : Nat → Nat) (mb : Bool → Nat → Option Nat) (ks : Bool → Nat → List Nat) (ix dp : Nat → Int) (fs : List Nat) (w1 : World), w.heap.size ≤ B → Gr (w.drew.setCell ⟨ib, 0, none⟩ (.slice none 0 0)) w1 →
      Own w1 (fun b => B ≤ b) 83 1 (.slice A lg.length c) lg.length (lg.map fun r => ptr (nd r)) → Gs B (cnt p) (g.enc p) nd mb ks ix dp w1 → lg.Nodup → (∀ r, r ∈ lg ↔ r < cnt p ∧ kindAt p r ≠ 3) → (∀ r, r ∈ fs ↔ r < cnt p ∧ kindAt p r = 3) → Inv (cnt p) fs (EL p fs) ks →
      (∀ (j r : Nat), lg[j]? = some r → ix r = (j : Int) ∧ dp r = ((ks true r).length : Int)) →
      Qu p B g nd mb ks dp w1.heap.size A c lg (w1.alloc (.cells #[.slice A lg.length c] 125)) ∧ Pst p ks [] [] lg dp ∧ Dps p ks ∧ ∀ r, r < cnt p → (ks true r).Nodup ∧ (ks true r).length ≤ cnt p) := by
    refine Lib.hid ?_
    intro B lg A c nd mb ks ix dp fs w1 hBs hg1 ho1 hgs hd1 hm1 hfm hinv hix
    have hga := (Gr.refl w1).alloc (.cells #[.slice A lg.length c] 125)
    have hkn : ∀ r, r < cnt p → (ks true r).Nodup ∧ (ks true r).length ≤ cnt p := fun r hr => ⟨hgs.nodup true hr, nodup_length_le (hgs.nodup true hr) (fun x hx => hgs.ltN true hr hx)⟩
    have hdp : ∀ r, r < cnt p → kindAt p r ≠ 3 → dp r = ((ks true r).length : Int) := fun r hr h3 => by
      obtain ⟨j, hj, he⟩ := List.mem_iff_getElem.1 ((hm1 r).2 ⟨hr, h3⟩)
      exact (hix j r (by simp [hj, he])).2
    refine ⟨?_, Pst.start hd1 hm1 hdp, dps_of hr hfm hinv, hkn⟩
    exact {
      gs := ⟨ix, hgs.gr hga, fun j r hj => (hix j r hj).1, fun r hr h3 hn => absurd ((hm1 r).2 ⟨hr, h3⟩) hn⟩
      box := heap_alloc_new w1 _
      row := ho1.gr hga
      obj := fun r hr' => Fr.heap hga (Fr.heap hg1 (hbA.obj r hr') id) id
      mem := fun r hr' => (hm1 r).1 hr'
      nodup := hd1
      dpb := fun r hr' => by
        obtain ⟨h1, h2⟩ := (hm1 r).1 hr'
        have := (hkn r h1).2
        rw [hdp r h1 h2]
        omega }
  go_enter Tryz.func62, Tryz.ntmps62
  go_wp2
  go_still_tail 14, (by kernel_rfl)
  change wpList _ _ _ _ _ w.drew
  go_wp2_with (first
    | (go_at_call 69; refine (init_any hqu hlg).mono ?_; rintro e w2 ⟨rfl, q2, hh2, hq2, hp2, hf2⟩)
    | (go_at_call 59; refine (graph_any _ B0 L0 om p g ksB hbA hks hcnt).mono ?_; rintro e w1 ⟨B, lg, A, c, nd, mb, ks, ix, dp, fs, rfl, hBs, hg1, ho1, hgs, hd1, hm1, hfd, hfm, hinv, hix⟩; rw [hsA] at hBs; obtain ⟨hqu, hpst, hD, hkn⟩ := Hfin.out B lg A c nd mb ks ix dp fs w1 hBs hg1 ho1 hgs hd1 hm1 hfm hinv hix; have hlg : lg.length ≤ 1099511627776 := (by have := nodup_length_le hd1 (fun x hx => ((hm1 x).1 hx).1); omega); have hset : ∀ c r b, r < cnt p → mb c r = some b → b < w1.heap.size := (fun c r b hr hb => (hgs.set c r b hr hb).1.lt); clear hgs ho1 hix hinv hfm hfd Hfin))
  have hw1 : w.heap.size ≤ w1.heap.size := by have := hg1.size; omega
  have hge := hq2.ge hBs hw1
  have hgA : Gr (w.drew.setCell ⟨ib, 0, none⟩ (.slice none 0 0)) (w1.alloc (.cells #[.slice A lg.length c] 125)) := hg1.alloc _
  have hfr2 : Fr (fun b => b = ib) w w2 := (hfA.trans (hgA.mono fun _ _ h => h.elim)).step hf2 (fun i hi hs => by have := hge i hs; omega)
  have hgm := (Gr.refl w2).alloc (.map #[] 0)
  have hibl : ib < w.heap.size := heap_lt zib
  have hib2 : w2.heap[ib]? = some (.cells #[.slice none 0 0] 97 (0, 0)) := hf2.heap (Fr.heap hgA zibA id) (fun h => by have := hge _ h; omega)
  have hrst : Rst p g w2.heap.size ib w [] (.slice none 0 0) (w2.alloc (.map #[] 0)) := {
    emap := NMap.made w2 _ _ _
    ibr := Fr.heap hgm hib2 id
    inits := ⟨[], rfl, Own.nil _ _ _ _, fun i a k h => by simp at h⟩
    fr := hfr2.trans (hgm.mono fun _ _ h => h.elim) }
  have hst : IRel p B g nd mb ks w1.heap.size A c w2.heap.size ib w q2.length (w2.alloc (.map #[] 0)) :=
    ⟨[], [], q2, [], dp, _, rfl, hq2.gr hgm, hh2, ⟨by simpa using hp2.nodup_iff.2 hd1, fun r => by simpa using (hp2.mem_iff.trans (hm1 r)), hpst.dps, by simp, .nil, fun h => absurd rfl h⟩, ⟨rfl, fun k => by simp⟩, hrst⟩
  have hemge : w.heap.size ≤ w2.heap.size := hfr2.size
  have hta := assert_node
  have hcbl : cb < w.heap.size := heap_lt zcb
  have hpe : w1.heap.size ≤ w2.heap.size := by have := hf2.size; simp only [World.size_alloc] at this; omega
  clear hq2 hh2 hf2 hgA hfr2 hgm hib2 hrst hqu hpst hp2 hlg hg1 hm1 hd1 hfA zcbA cA hbA zibA hsA hsl if0 c0 c1 i0
  generalize hem : w2.heap.size = em at *
  generalize hpq : w1.heap.size = pq at *
  go_loopg [] q2.length (IRel p B g nd mb ks pq A c em ib w)
  case atStart => exact hst
  case round =>
    clear hst
    rename World => wr
    obtain ⟨cs, L, q, eks, dp, v, hqk, hqu, hh, hpst, htold, hrst⟩ := hrel
    have hbox := hqu.boxCell
    have hld := load_125 wr pq _ hbox
    have hql : q.length ≤ 1099511627776 := by have := nodup_length_le hqu.nodup (fun x hx => (hqu.mem x hx).1); omega
    by_cases h0 : q.length = 0
    · have hq0 : q = [] := List.eq_nil_of_length_eq_zero h0
      subst hq0
      go_wp2
      refine bodyPost_end0' rfl rfl ?_
      exact ⟨rfl, L, eks, v, hpst.gdy, hpst.last hK, htold.1, hrst.emap.1, hrst.emap.2.1, hrst.ibr, hrst.inits, hrst.fr⟩
    · have h0' : 0 < q.length := by omega
      have h0i : (0 : Int) < (q.length : Int) := by omega
      go_wp2_with (go_at_call 70; refine (heapPop_any hqu hql h0' hh).mono ?_; rintro e w3 ⟨x, q1, rfl, hh1, hq1, hp1, hle1, hf1⟩; obtain ⟨hxm1, hxm2⟩ := (hqu.mem x (hp1.mem_iff.1 (by simp))); obtain ⟨y4, yf, y0, y1⟩ := hq1.deps hxm1; simp only [Gh.enc, ifc, ptr] at y0; have hrst3 := hrst.atQ hqu hge hf1; have hxq : x ∈ q := hp1.mem_iff.1 (by simp); obtain ⟨ix3, hgs3, -⟩ := hq1.gs; obtain ⟨o6, hrange6, hit6⟩ := hgs3.range false hxm1; clear hgs3)
      · rename_i hd
        rcases hpst.pop hK hA hD hp1 hle1 hqu.dpb with ⟨hc4, hL⟩ | ⟨hc4, hd0, -, -, -⟩
        · have hB3 := hb.frCell zib rfl hrst3.fr
          have hcb3 := hrst3.fr.heap zcb hne
          have k3 : w3.cell? ⟨cb, 0, none⟩ = some (.map (some om)) := by rw [cell_row hcb3]; rfl
          have hBm := hB3.gr ((Gr.refl w3).drew.alloc (.map #[] 0))
          have hw3 := hrst3.fr.size
          have hom3 : om ≠ w3.heap.size := by have := hB3.omap.lt; omega
          have hdm3 : ∀ k, k < p.length → g.dm k ≠ w3.heap.size := fun k hk => by have := (hB3.dep k hk).lt; omega
          have hmade := NMap.made w3.drew (g.enc p) (cnt p) (fun _ => .bool true)
          have hfind := find_any hks hcnt hom3 hdm3 hxm1 (cnt p) (w3.drew.alloc (.map #[] 0)) [] x (by simp) hxm1 (hF x hxm1 hc4) hBm hmade
          simp only [Gh.enc, ifc, ptr] at hfind
          clear hrange6 hit6 hBm hB3 hmade
          have k3' : ∀ o, (w3.drew.alloc o).cell? ⟨cb, 0, none⟩ = some (.map (some om)) := fun o => Gr.cell ((Gr.refl w3).drew.alloc o) k3
          have y3' : ∀ o, (w3.drew.alloc o).cell? ⟨nd x, 0, none⟩ = some (.iface (tyI p x) (.pointer (some ⟨g.ob x, 0, none⟩))) := fun o => Gr.cell ((Gr.refl w3).drew.alloc o) y0
          go_region_held3 (fun w' => w'.cell? ⟨cb, 0, none⟩ = some (.map (some om)) ∧ w'.cell? ⟨nd x, 0, none⟩ = some (.iface (tyI p x) (.pointer (some ⟨g.ob x, 0, none⟩)))) (first | exact ⟨k3, y0⟩ | exact ⟨k3' _, y3' _⟩ | exact ⟨k5, z5⟩) (first | (go_at_call 71; refine hfind.mono ?_; rintro e w5 ⟨rfl, seen', hS5, -, hf5⟩; have hg5 : Gr w3 w5 := ((Gr.refl w3).drew.alloc _).step hf5 (fun b hb => by omega); have hq5 := hq1.gr hg5; have hrst5 := hrst3.gr hg5; have k5 := Gr.cell hg5 k3; have z5 := Gr.cell hg5 y0; obtain ⟨-, -, -, y5⟩ := hq5.deps hxm1; obtain ⟨ix5, hgs5, -⟩ := hq5.gs; obtain ⟨o6, hrange6, hit6⟩ := hgs5.range false hxm1))
          go_wp2
          have hitge : w.heap.size ≤ w5.heap.size := hrst5.fr.size
          go_loopg [] (ks false x).length (IRel2 p B g nd mb ks pq A c x w5.heap.size dp q1 em ib w eks v)
          case atStart => exact ⟨_, dp, q1, rfl, hit6, hq5.gr ((Gr.refl _).alloc _), hh1, List.Perm.refl _, fun r => by rw [if_neg (fun h => h.2 h.1)]; omega, hrst5.gr ((Gr.refl _).alloc _)⟩
          case round =>
            rename World => wa
            clear hit6 hrange6
            obtain ⟨rem, dp2, q2', hgk2, hsi, hqa, hha, hpa, hdpa, hrsta⟩ := hrel
            have hin := hsi.sub
            have hql2 : q2'.length ≤ 1099511627776 := by have := nodup_length_le hqa.nodup (fun y hy => (hqa.mem y hy).1); omega
            rcases hsi.next 0 with ⟨hr0, hnx⟩ | ⟨r, hrm, wb, hnx, hent, hsib, hfb, hsb⟩
            · subst hr0
              obtain ⟨z4, zf, z0, z1⟩ := hqa.deps hxm1
              simp only [Gh.enc, ifc, ptr] at z0
              have hBa := hb.frCell zib rfl hrsta.fr
              have hcba := hrsta.fr.heap zcb hne
              have k0 : wa.cell? ⟨cb, 0, none⟩ = some (.map (some om)) := by rw [cell_row hcba]; rfl
              have k1 : wa.cell? ⟨cb, 1, none⟩ = some (.pointer (some ⟨ib, 0, none⟩)) := by rw [cell_row hcba]; rfl
              have hdpx : ∀ r, dp2 r = dp r - if r ∈ ks false x then 1 else 0 := fun r => by rw [hdpa r]; simp
              have Hdpx := Lib.hid hdpx
              clear hdpa hdpx
              have hpx : (x :: q2').Perm q := (hpa.cons x).trans hp1
              have hkn1 := fun r hr => (hkn r hr).1
              have hty : tyI p x = 111 := (kindAt_tyI p x).2 hc4
              have hta2 := assert_not102 hty (.pointer (some ⟨g.ob x, 0, none⟩))
              simp only [hty] at hta2
              have hlk := hBa.lookNil
              go_wp2
              go_roundg q2'.length
              case rel => exact ⟨cs ++ [x], L, q2', eks, dp2, v, rfl, hqa, hha, hpst.next hD hpx Hdpx.out (by subst hL; simp) hkn1 (fun r hr => by
                rcases List.mem_append.1 hr with h | h
                · exact hpst.consts r h
                · simp at h; subst h; exact hc4) hpst.gdy (fun h => absurd hL h), htold, hrsta⟩
              case measure => have := hpx.length_eq; simp at this; omega
            · obtain ⟨hr0, hrn⟩ := hin.2 r hrm
              have hqb := hqa.iter hsi.iter hfb
              have hrstb := hrsta.iter hsi.iter hfb hitge
              obtain ⟨h1, h3, h1d, hbd⟩ := hpst.one hD hxq hr0
              have hbr := hbd r h1 (hkn r h1).2 h3
              have hd2 : dp2 r = dp r := by rw [hdpa, if_neg (fun h => h.2 hrm)]; omega
              obtain ⟨z4, zf, -, -⟩ := hqb.deps hrn
              obtain ⟨hqc, hfc⟩ := hqb.dec hrn (fun _ => by omega)
              have hrstc := hrstb.atQ hqb hge hfc
              have hsic := hsib.atQ hqb hxm1 hfc
              have hdrel : ∀ r', decD dp2 r r' = dp r' - if r' ∈ ks false x ∧ r' ∉ rem.erase r then 1 else 0 := fun r' => by
                unfold decD
                by_cases e : r' = r
                · subst e
                  rw [if_pos rfl, if_pos ⟨hr0, fun h => (List.Nodup.mem_erase_iff hin.1).1 h |>.1 rfl⟩, hd2]
                · rw [if_neg e, hdpa r']
                  have : r' ∉ rem.erase r ↔ r' ∉ rem := by rw [List.Nodup.mem_erase_iff hin.1]; simp [e]
                  simp only [this]
              have hlr := List.length_erase_of_mem hrm
              have hlp := List.length_pos_of_mem hrm
              simp only [ptr] at hnx hent
              have hdlo : 1 ≤ dp2 r := by omega
              have hdhi : dp2 r ≤ 209715200 := by omega
              have Hdrel := Lib.hid hdrel
              clear hd2 hbr hbd h1d hdpa hdrel
              by_cases hrq : r ∈ q2'
              · obtain ⟨j, hjl, hj, z3⟩ := hqb.place hrq
                obtain ⟨hup, hfine⟩ := heap_dec hha hqa.nodup hj
                have hfix := fix_any hqc hql2 hjl hup hfine
                clear hup hfine
                go_wp2_with (go_at_call 73; refine hfix.mono ?_; rintro e wd ⟨rfl, q3, hh3, hq3, hp3, hf3⟩)
                go_roundg (rem.erase r).length
                case rel => exact ⟨rem.erase r, decD dp2 r, q3, rfl, hsic.atQ hqc hxm1 hf3, hq3, hh3, hp3.trans hpa, Hdrel.out, hrstc.atQ hqc hge hf3⟩
                case measure => omega
              · have z3 := hqb.gone hrq h1 h3
                have hhs := heap_same hha hrq
                have hfix := fix_out hqc hql2
                go_wp2_with (go_at_call 73; refine hfix.mono ?_; rintro e wd ⟨rfl, rfl⟩)
                go_roundg (rem.erase r).length
                case rel => exact ⟨rem.erase r, decD dp2 r, q2', rfl, hsic, hqc, hhs, hpa, Hdrel.out, hrstc⟩
                case measure => omega
        · omega
      · rename_i hd
        have hitge : w.heap.size ≤ w3.heap.size := hrst3.fr.size
        go_loopg [] (ks false x).length (IRel2 p B g nd mb ks pq A c x w3.heap.size dp q1 em ib w eks v)
        case atStart => exact ⟨_, dp, q1, rfl, hit6, hq1.gr ((Gr.refl _).alloc _), hh1, List.Perm.refl _, fun r => by rw [if_neg (fun h => h.2 h.1)]; omega, hrst3.gr ((Gr.refl _).alloc _)⟩
        case round =>
          rename World => wa
          clear hit6 hrange6
          obtain ⟨rem, dp2, q2', hgk2, hsi, hqa, hha, hpa, hdpa, hrsta⟩ := hrel
          have hin := hsi.sub
          have hql2 : q2'.length ≤ 1099511627776 := by have := nodup_length_le hqa.nodup (fun y hy => (hqa.mem y hy).1); omega
          rcases hsi.next 0 with ⟨hr0, hnx⟩ | ⟨r, hrm, wb, hnx, hent, hsib, hfb, hsb⟩
          · subst hr0
            obtain ⟨z4, zf, z0, z1⟩ := hqa.deps hxm1
            simp only [Gh.enc, ifc, ptr] at z0
            have hBa := hb.frCell zib rfl hrsta.fr
            have hcba := hrsta.fr.heap zcb hne
            have k0 : wa.cell? ⟨cb, 0, none⟩ = some (.map (some om)) := by rw [cell_row hcba]; rfl
            have k1 : wa.cell? ⟨cb, 1, none⟩ = some (.pointer (some ⟨ib, 0, none⟩)) := by rw [cell_row hcba]; rfl
            have hdpx : ∀ r, dp2 r = dp r - if r ∈ ks false x then 1 else 0 := fun r => by rw [hdpa r]; simp
            have Hdpx := Lib.hid hdpx
            clear hdpa hdpx
            have hpx : (x :: q2').Perm q := (hpa.cons x).trans hp1
            have hkn1 := fun r hr => (hkn r hr).1
            rcases hpst.pop hK hA hD hp1 hle1 hqu.dpb with ⟨hc4, hL⟩ | ⟨hc4, hd0, hcand, hmin, hnc⟩
            · have hty : tyI p x = 111 := (kindAt_tyI p x).2 hc4
              have hta2 := assert_not102 hty (.pointer (some ⟨g.ob x, 0, none⟩))
              simp only [hty] at hta2
              have hlk := hBa.lookNil
              go_wp2
              go_roundg q2'.length
              case rel => exact ⟨cs ++ [x], L, q2', eks, dp2, v, rfl, hqa, hha, hpst.next hD hpx Hdpx.out (by subst hL; simp) hkn1 (fun r hr => by
                rcases List.mem_append.1 hr with h | h
                · exact hpst.consts r h
                · simp at h; subst h; exact hc4) hpst.gdy (fun h => absurd hL h), htold, hrsta⟩
              case measure => have := hpx.length_eq; simp at this; omega
            · have hvx := hcand.1
              obtain ⟨ho1, ho2, ho3⟩ := own_spec hxm1
              have hty : tyI p x = 102 := tyI_var ((kinds hK hxm1).1 ⟨hxm2, hc4⟩)
              have hta2 := assert_is102 hty (.pointer (some ⟨g.ob x, 0, none⟩))
              simp only [hty] at hta2
              have hlook := hBa.omap.look hBa.keyOk Tryz.underlying78 zero110 hxm1
              rw [if_pos (by simpa using hxm1)] at hlook
              simp only [Gh.enc, ifc, ptr, hty] at hlook
              have hdc := hBa.dcl _ ho1
              have x0 : wa.cell? ⟨g.dc (own p x), 0, none⟩ = some (g.lh (own p x)) := by rw [cell_row hdc]; rfl
              have x1 : wa.cell? ⟨g.dc (own p x), 1, none⟩ = some (.bool (it p (own p x)).ini) := by rw [cell_row hdc]; rfl
              have hxL : x ∉ L := hcand.2.1
              cases hini : (it p (own p x)).ini
              · rw [hini] at x1
                go_wp2_with (go_at_call 74; refine (hasInit_any _ _ _ x1).mono ?_; rintro e w5 ⟨rfl, rfl⟩)
                go_roundg q2'.length
                case rel => exact ⟨cs, L ++ [x], q2', eks, dp2, v, rfl, hqa, hha, hpst.next hD hpx Hdpx.out (by simp) hkn1 hpst.consts (.snoc hpst.gdy hcand hmin) (fun _ r hr => hnc r (hpa.mem_iff.1 hr)), htold.plain hini, hrsta⟩
                case measure => have := hpx.length_eq; simp at this; omega
              · rw [hini] at x1
                have hKd : KeyOk Tryz.prog wa 110 (fun k => ptr (g.dc k)) p.length := keyOk_ptr ptr110 (fun k hk => ⟨_, _, hBa.dcl k hk⟩) hBa.dclInj
                have hlk2 := hrsta.emap.look hKd Tryz.underlying128 zero4 ho1
                by_cases hin2 : own p x ∈ eks
                · rw [if_pos hin2] at hlk2
                  simp only [ptr] at hlk2
                  go_wp2_with (go_at_call 74; refine (hasInit_any _ _ _ x1).mono ?_; rintro e w5 ⟨rfl, rfl⟩)
                  go_roundg q2'.length
                  case rel => exact ⟨cs, L ++ [x], q2', eks, dp2, v, rfl, hqa, hha, hpst.next hD hpx Hdpx.out (by simp) hkn1 hpst.consts (.snoc hpst.gdy hcand hmin) (fun _ r hr => hnc r (hpa.mem_iff.1 hr)), htold.again hpst.gdy hxL hvx hin2, hrsta⟩
                  case measure => have := hpx.length_eq; simp at this; omega
                · rw [if_neg hin2] at hlk2
                  obtain ⟨w6, hput6, he6, hf6, hs6⟩ := hrsta.emap.put hKd Tryz.underlying128 ho1 (.bool true)
                  simp only [ptr] at hlk2 hput6
                  have he6' := he6.congr (val' := fun _ => .bool true) (fun _ _ => rfl) (fun j _ => by simp [putVal]) he6.2.1
                  have hpk : putKs eks (own p x) = eks ++ [own p x] := by simp [putKs, hin2]
                  rw [hpk] at he6'
                  have hrem : ∀ c r b, r < cnt p → mb c r = some b → b ≠ em := fun c r b hr hb => by have := hset c r b hr hb; omega
                  have hq6 := hqa.frMap hrsta.emap hrem hf6
                  have hib6 : w6.heap[ib]? = some (.cells #[v] 97 (0, 0)) := hf6.heap hrsta.ibr (fun e => hrsta.emap.ne hrsta.ibr e.symm)
                  have hin6 : Inits p g w.heap.size v eks w6 := hrsta.inits.fr hf6 (fun b cur t hb _ e => hrsta.emap.ne hb e.symm)
                  have hfr6 : Fr (fun b => b = ib) w w6 := hrsta.fr.step hf6 (fun i hi hs => by omega)
                  have hB6 := hb.frCell zib rfl hfr6
                  have x6 : w6.cell? ⟨g.dc (own p x), 0, none⟩ = some (g.lh (own p x)) := by rw [cell_row (hB6.dcl _ ho1)]; rfl
                  have k6 : w6.cell? ⟨cb, 1, none⟩ = some (.pointer (some ⟨ib, 0, none⟩)) := by rw [cell_row (hfr6.heap zcb hne)]; rfl
                  have hw6 := hfr6.size
                  have Htold := Lib.hid (htold.new hcand hmin hini hin2)
                  have hel : eks.length ≤ 209715200 := by
                    have := nodup_length_le hrsta.emap.1 hrsta.emap.2.1
                    have := len_le_cnt hK
                    omega
                  clear hs6 hBa hdc hrsta hqa hf6 he6 hpk
                  by_cases hk1 : (it p (own p x)).kind = 1
                  · have hl6 := hB6.lhs _ ho1 hk1
                    obtain ⟨gl, ol, capl, curl, hel2, -, -, -, -, -⟩ := hl6.at_ (by omega)
                    rw [hel2] at x6 hl6
                    obtain ⟨hq7, hem7, hib7, hin7, hfr7, hrow7, hl7⟩ := told_begin hq6 he6' hib6 hin6 hfr6 hl6
                    have k7 := Gr.cell ((Gr.refl w6).alloc (.cells #[.slice (some ⟨gl, ol, none⟩) (it p (own p x)).n capl] 101)) k6
                    have ha7 : w.heap.size ≤ w6.heap.size := hw6
                    go_wp2_with (go_at_call 74; refine (hasInit_any _ _ _ x1).mono ?_; rintro e w5 ⟨rfl, rfl⟩)
                    generalize hw7 : w6.alloc (.cells #[.slice (some ⟨gl, ol, none⟩) (it p (own p x)).n capl] 101) = w7 at *
                    generalize w6.heap.size = a7 at *
                    have hw7s := hfr7.size
                    obtain ⟨ads, had1, had2, had3⟩ := hin7
                    obtain ⟨v9, w9, Hr9, ho9, hf9, -, -, -⟩ := app1 (P := Tryz.prog) (w := w7.drew) (t := 95) (ty := 95) elem98 Tryz.underlying95 (had2.gr (Gr.refl w7).drew) (ptr a7) rfl (by exact hw7s) (by omega) (by omega)
                    obtain ⟨A9, c9, rfl⟩ := ho9.val
                    replace hf9 : Fr (fun b => v.ownBlock = some b) w7 w9 := ⟨hf9.os, hf9.tape, hf9.output, hf9.size, hf9.block⟩
                    have hend := told_end hq7 hem7 hib7 ⟨ads, had1, had2, had3⟩ hfr7 hrow7 hl7 had1 had3 ho9 hf9 ha7
                    have hib7f := frozen_row hib7
                    have j7 : w7.cell? ⟨ib, 0, none⟩ = some v := by rw [cell_row hib7]; rfl
                    have j7' : ∀ o, (w7.drew.alloc o).cell? ⟨ib, 0, none⟩ = some v := fun o => Gr.cell ((Gr.refl w7).drew.alloc o) j7
                    have k7' : ∀ o, (w7.drew.alloc o).cell? ⟨cb, 1, none⟩ = some (.pointer (some ⟨ib, 0, none⟩)) := fun o => Gr.cell ((Gr.refl w7).drew.alloc o) k7
                    obtain ⟨hib9, hcb9⟩ := hend.2.2 cb _ (.pointer (some ⟨ib, 0, none⟩)) k7 (hfr7.heap zcb hne)
                    have j9 : w9.cell? ⟨ib, 0, none⟩ = some v := by rw [cell_row hib9]; rfl
                    have j9f := frozen_row hib9
                    have k9' : ∀ u, (w9.setCell ⟨ib, 0, none⟩ u).cell? ⟨cb, 1, none⟩ = some (.pointer (some ⟨ib, 0, none⟩)) := fun u => cell_set_far hcb9 (fun e => hne e.symm)
                    have hlt7 : ib < w7.heap.size := heap_lt hib7
                    have hlt8 : cb < w7.heap.size := heap_lt (hfr7.heap zcb hne)
                    have k8 : ∀ o, (w7.alloc o).cell? ⟨cb, 1, none⟩ = some (.pointer (some ⟨ib, 0, none⟩)) := fun o => Gr.cell ((Gr.refl w7).alloc o) k7
                    have j8 : ∀ o, (w7.alloc o).cell? ⟨ib, 0, none⟩ = some v := fun o => Gr.cell ((Gr.refl w7).alloc o) j7
                    have hne8 : ¬ cb = w7.heap.size := by omega
                    have hne8' : ¬ w7.heap.size = cb := by omega
                    have hne7 : ¬ ib = w7.heap.size := by omega
                    have hne7' : ¬ w7.heap.size = ib := by omega
                    simp only [ptr] at Hr9
                    clear had2 had3 hrow7 hl7
                    go_region_law (first | (refine step_appended rfl _ _ _ _ rfl rfl rfl Hr9 ?_))
                    all_goals (
                      go_wp2
                      go_roundg q2'.length
                      case rel => exact ⟨cs, L ++ [x], q2', eks ++ [own p x], dp2, _, rfl, hend.1, hha, hpst.next hD hpx Hdpx.out (by simp) hkn1 hpst.consts (.snoc hpst.gdy hcand hmin) (fun _ r hr => hnc r (hpa.mem_iff.1 hr)), Htold.out, hend.2.1⟩
                      case measure => have := hpx.length_eq; simp at this; omega)
                  · have hl0 := hB6.lone _ ho1 hk1
                    rw [hl0] at x6
                    have hn1 : (it p (own p x)).n = 1 := by simp [It.n, hk1]
                    have hobj : objs p (own p x) = [x] := by
                      unfold objs
                      rw [hn1]
                      have : start p (own p x) = x := by omega
                      simp [this]
                    have hg6 := (Gr.refl w6).alloc (.cells #[.pointer (some ⟨g.ob x, 0, none⟩)] 102)
                    have hl6 : Own (w6.alloc (.cells #[.pointer (some ⟨g.ob x, 0, none⟩)] 102)) (fun _ => True) 102 1 (.slice (some ⟨w6.heap.size, 0, none⟩) 1 1) (it p (own p x)).n ((objs p (own p x)).map fun r => ptr (g.ob r)) := by
                      rw [hn1, hobj]
                      have := Own.made (ok := fun _ => True) (e := 102) (sz := 1) w6 #[.pointer (some ⟨g.ob x, 0, none⟩)] 1 1 trivial (by omega) (by simp [maxLen]) (by simp)
                      simpa [ptr] using this
                    obtain ⟨hq7, hem7, hib7, hin7, hfr7, hrow7, hl7⟩ := told_begin (hq6.gr hg6) (he6'.fr hg6 id) (Fr.heap hg6 hib6 id) (hin6.fr hg6 (fun _ _ _ _ _ => id)) (hfr6.trans (hg6.mono fun _ _ h => h.elim)) hl6
                    simp only [World.size_alloc] at hrow7
                    have k7 := Gr.cell (hg6.alloc (.cells #[.slice (some ⟨w6.heap.size, 0, none⟩) 1 1] 101)) k6
                    have ha7 : w.heap.size ≤ w6.heap.size + 1 := by omega
                    go_wp2_with (go_at_call 74; refine (hasInit_any _ _ _ x1).mono ?_; rintro e w5 ⟨rfl, rfl⟩)
                    generalize hw7 : (w6.alloc (.cells #[.pointer (some ⟨g.ob x, 0, none⟩)] 102)).alloc (.cells #[.slice (some ⟨w6.heap.size, 0, none⟩) 1 1] 101) = w7 at *
                    generalize w6.heap.size + 1 = a7 at *
                    have hw7s := hfr7.size
                    obtain ⟨ads, had1, had2, had3⟩ := hin7
                    obtain ⟨v9, w9, Hr9, ho9, hf9, -, -, -⟩ := app1 (P := Tryz.prog) (w := w7.drew) (t := 95) (ty := 95) elem98 Tryz.underlying95 (had2.gr (Gr.refl w7).drew) (ptr a7) rfl (by exact hw7s) (by omega) (by omega)
                    obtain ⟨A9, c9, rfl⟩ := ho9.val
                    replace hf9 : Fr (fun b => v.ownBlock = some b) w7 w9 := ⟨hf9.os, hf9.tape, hf9.output, hf9.size, hf9.block⟩
                    have hend := told_end hq7 hem7 hib7 ⟨ads, had1, had2, had3⟩ hfr7 hrow7 hl7 had1 had3 ho9 hf9 ha7
                    have hib7f := frozen_row hib7
                    have j7 : w7.cell? ⟨ib, 0, none⟩ = some v := by rw [cell_row hib7]; rfl
                    have j7' : ∀ o, (w7.drew.alloc o).cell? ⟨ib, 0, none⟩ = some v := fun o => Gr.cell ((Gr.refl w7).drew.alloc o) j7
                    have k7' : ∀ o, (w7.drew.alloc o).cell? ⟨cb, 1, none⟩ = some (.pointer (some ⟨ib, 0, none⟩)) := fun o => Gr.cell ((Gr.refl w7).drew.alloc o) k7
                    obtain ⟨hib9, hcb9⟩ := hend.2.2 cb _ (.pointer (some ⟨ib, 0, none⟩)) k7 (hfr7.heap zcb hne)
                    have j9 : w9.cell? ⟨ib, 0, none⟩ = some v := by rw [cell_row hib9]; rfl
                    have j9f := frozen_row hib9
                    have k9' : ∀ u, (w9.setCell ⟨ib, 0, none⟩ u).cell? ⟨cb, 1, none⟩ = some (.pointer (some ⟨ib, 0, none⟩)) := fun u => cell_set_far hcb9 (fun e => hne e.symm)
                    have hlt7 : ib < w7.heap.size := heap_lt hib7
                    have hlt8 : cb < w7.heap.size := heap_lt (hfr7.heap zcb hne)
                    have k8 : ∀ o, (w7.alloc o).cell? ⟨cb, 1, none⟩ = some (.pointer (some ⟨ib, 0, none⟩)) := fun o => Gr.cell ((Gr.refl w7).alloc o) k7
                    have j8 : ∀ o, (w7.alloc o).cell? ⟨ib, 0, none⟩ = some v := fun o => Gr.cell ((Gr.refl w7).alloc o) j7
                    have hne8 : ¬ cb = w7.heap.size := by omega
                    have hne8' : ¬ w7.heap.size = cb := by omega
                    have hne7 : ¬ ib = w7.heap.size := by omega
                    have hne7' : ¬ w7.heap.size = ib := by omega
                    simp only [ptr] at Hr9
                    clear had2 had3 hrow7 hl7
                    go_region_law (first | (refine step_appended rfl _ _ _ _ rfl rfl rfl Hr9 ?_))
                    all_goals (
                      go_wp2
                      go_roundg q2'.length
                      case rel => exact ⟨cs, L ++ [x], q2', eks ++ [own p x], dp2, _, rfl, hend.1, hha, hpst.next hD hpx Hdpx.out (by simp) hkn1 hpst.consts (.snoc hpst.gdy hcand hmin) (fun _ r hr => hnc r (hpa.mem_iff.1 hr)), Htold.out, hend.2.1⟩
                      case measure => have := hpx.length_eq; simp at this; omega)
          · obtain ⟨hr0, hrn⟩ := hin.2 r hrm
            have hqb := hqa.iter hsi.iter hfb
            have hrstb := hrsta.iter hsi.iter hfb hitge
            obtain ⟨h1, h3, h1d, hbd⟩ := hpst.one hD hxq hr0
            have hbr := hbd r h1 (hkn r h1).2 h3
            have hd2 : dp2 r = dp r := by rw [hdpa, if_neg (fun h => h.2 hrm)]; omega
            obtain ⟨z4, zf, -, -⟩ := hqb.deps hrn
            obtain ⟨hqc, hfc⟩ := hqb.dec hrn (fun _ => by omega)
            have hrstc := hrstb.atQ hqb hge hfc
            have hsic := hsib.atQ hqb hxm1 hfc
            have hdrel : ∀ r', decD dp2 r r' = dp r' - if r' ∈ ks false x ∧ r' ∉ rem.erase r then 1 else 0 := fun r' => by
              unfold decD
              by_cases e : r' = r
              · subst e
                rw [if_pos rfl, if_pos ⟨hr0, fun h => (List.Nodup.mem_erase_iff hin.1).1 h |>.1 rfl⟩, hd2]
              · rw [if_neg e, hdpa r']
                have : r' ∉ rem.erase r ↔ r' ∉ rem := by rw [List.Nodup.mem_erase_iff hin.1]; simp [e]
                simp only [this]
            have hlr := List.length_erase_of_mem hrm
            have hlp := List.length_pos_of_mem hrm
            simp only [ptr] at hnx hent
            have hdlo : 1 ≤ dp2 r := by omega
            have hdhi : dp2 r ≤ 209715200 := by omega
            have Hdrel := Lib.hid hdrel
            clear hd2 hbr hbd h1d hdpa hdrel
            by_cases hrq : r ∈ q2'
            · obtain ⟨j, hjl, hj, z3⟩ := hqb.place hrq
              obtain ⟨hup, hfine⟩ := heap_dec hha hqa.nodup hj
              have hfix := fix_any hqc hql2 hjl hup hfine
              clear hup hfine
              go_wp2_with (go_at_call 73; refine hfix.mono ?_; rintro e wd ⟨rfl, q3, hh3, hq3, hp3, hf3⟩)
              go_roundg (rem.erase r).length
              case rel => exact ⟨rem.erase r, decD dp2 r, q3, rfl, hsic.atQ hqc hxm1 hf3, hq3, hh3, hp3.trans hpa, Hdrel.out, hrstc.atQ hqc hge hf3⟩
              case measure => omega
            · have z3 := hqb.gone hrq h1 h3
              have hhs := heap_same hha hrq
              have hfix := fix_out hqc hql2
              go_wp2_with (go_at_call 73; refine hfix.mono ?_; rintro e wd ⟨rfl, rfl⟩)
              go_roundg (rem.erase r).length
              case rel => exact ⟨rem.erase r, decD dp2 r, q2', rfl, hsic, hqc, hhs, hpa, Hdrel.out, hrstc⟩
              case measure => omega
end Go.Proofs.YtelfaljidgfphaaGreat
