/-
  The walk of 'reached': which objects references of a declaration lead to.
-/
import Derived.Test.YtelfaljidgfphaaGreatB3
import Derived.Test.YtelfaljidgfphaaGreatP2
namespace Go.Proofs.YtelfaljidgfphaaGreat
open Go.RowKit

/-- A function value that tells f of a declaration. -/
def Tells (F : Nat) (f : It → Bool) : Prop := (∀ (args : Array Value) (u : World), (callFunc F args).run Tryz.prog u = .ok (.enter F args) u) ∧ ∀ (x : It) (A : Option Addr) (n c : Nat) (w : World),
  Calls Tryz.prog F #[.agg #[.int .i64 x.kind, .int .i64 x.many, .slice A n c]] w fun e w' => e = .returned (.bool (f x)) ∧ Gr w w'

theorem tells_all : Tells 51 fAll := by
  refine ⟨fun args u => by kernel_rfl, ?_⟩
  intro x A n c w
  go_enter Tryz.func51, Tryz.ntmps51
  go_wp2
  go_ret
  exact ⟨rfl, (Gr.refl w).alloc _⟩
theorem tells_noConst : Tells 50 fNoConst := by
  refine ⟨fun args u => by kernel_rfl, ?_⟩
  intro x A n c w
  have e : Hid (fNoConst x = (x.kind != 4)) := rfl
  rw [e.out]
  cases h : (x.kind != 4) <;>
    (go_enter Tryz.func50, Tryz.ntmps50
     go_wp2
     go_ret
     exact ⟨rfl, (Gr.refl w).alloc _⟩)
theorem tells_func : Tells 52 fFunc := by
  refine ⟨fun args u => by kernel_rfl, ?_⟩
  intro x A n c w
  have e : Hid (fFunc x = (x.kind == 3)) := rfl
  rw [e.out]
  cases h : (x.kind == 3) <;>
    (go_enter Tryz.func52, Tryz.ntmps52
     go_wp2
     go_ret
     exact ⟨rfl, (Gr.refl w).alloc _⟩)
theorem tells_func' : Tells 55 fFunc := by
  refine ⟨fun args u => by kernel_rfl, ?_⟩
  intro x A n c w
  have e : Hid (fFunc x = (x.kind == 3)) := rfl
  rw [e.out]
  cases h : (x.kind == 3) <;>
    (go_enter Tryz.func55, Tryz.ntmps55
     go_wp2
     go_ret
     exact ⟨rfl, (Gr.refl w).alloc _⟩)

theorem info4 : (Tryz.prog.info? 4).map (fun i => (i.zero, i.size, i.bytes)) = some (some (.bool false), 1, 1) := by kernel_rfl

theorem madeCells_one (z : Value) (n : Nat) : madeCells #[z] n = Array.replicate n z := by
  apply Array.ext
  · simp [madeCells]
  · intro i h1 h2
    simp [madeCells, Nat.mod_one]

theorem make_bools (u : World) (N : Nat) (hN : N ≤ 1099511627776) : (Instr.makeSlice 23 (.int .i64 (N : Int)) (.int .i64 (N : Int))).run Tryz.prog u =
    .ok (.slice (some ⟨u.heap.size, 0, none⟩) N N) (u.alloc (.cells (Array.replicate N (Value.bool false)) 4)) := by
  obtain ⟨i0, hi, hz0, hz1, hz2⟩ := info_parts info4
  have h := run_make (P := Tryz.prog) u 23 4 i0 (.bool false) Tryz.underlying23 hi hz0 .i64 .i64 (N : Int) (N : Int) (by omega) (Int.le_refl _) (by rw [hz2]; omega) (by omega)
  rw [h, hz1]
  simp only [Int.toNat_natCast, Nat.mul_one, Value.cells, madeCells_one]

theorem fr_set (w : World) (b i : Nat) (u : Value) : Fr (fun k => k = b) w (w.setCell ⟨b, i, none⟩ u) := Fr.setCell (S := fun k => k = b) (Fr.refl _ w) (p := ⟨b, i, none⟩) rfl u

/-- 's = s[1:]' -/
theorem slice_tail (g og n cap : Nat) (hcap : n + 1 ≤ cap) : ∃ og2, (∀ u, (Instr.slice 29 (.slice (some ⟨g, og, none⟩) (n + 1) cap) (some (.int .i64 1)) none none).run Tryz.prog u = .ok (.slice (some ⟨g, og2, none⟩) n (cap - 1)) u) ∧
    ∀ (w : World) (ok : Nat → Prop) (e : Nat) (c0 : Value) (cs : List Value), Own w ok e 1 (.slice (some ⟨g, og, none⟩) (n + 1) cap) (n + 1) (c0 :: cs) → Own w ok e 1 (.slice (some ⟨g, og2, none⟩) n (cap - 1)) n cs := by
  obtain ⟨i0, hi, hz0, hz1, hz2⟩ := info_parts info3
  have hrun : ∀ u, (Instr.slice 29 (.slice (some ⟨g, og, none⟩) (n + 1) cap) (some (.int .i64 1)) none none).run Tryz.prog u = .ok (.slice (some ⟨g, if cap = 1 then og else og + 1, none⟩) n (cap - 1)) u := by
    intro u
    have h1 : (1 : Int) ≤ ((n + 1 : Nat) : Int) := by omega
    have hs : (Instr.sliceBound (.int .i64 1) (n + 1) .sliceB).run Tryz.prog u = .ok 1 u := by
      have := run_sliceBound (P := Tryz.prog) u .i64 1 (n + 1) .sliceB (by omega) h1
      simpa using this
    by_cases hc : cap = 1
    · simp [Instr.slice, run_underlying Tryz.underlying29, Instr.sliceBounds, hs, sizeOf, typeInfo, hi, hz1, hc]
    · simp [Instr.slice, run_underlying Tryz.underlying29, Instr.sliceBounds, hs, sizeOf, typeInfo, hi, hz1, hc, Addr.add]
  refine ⟨_, hrun, fun w ok e c0 cs h => ?_⟩
  have := Own.tail (c0 := [c0]) (cs := cs) h rfl
  by_cases hc : cap = 1
  · have h2 := this.2 hc
    subst hc
    simpa using h2
  · simpa [hc] using this.1

def ReachRel (w1 : World) (p : List It) (f : It → Bool) (k : Nat) (gk : Nat) (v : Value) (wr : World) : Prop :=
  ∃ out wait, Bfs p f k out wait ∧ wait.length + costOf (fun r => (refsAt p r).length) out 0 = gk ∧ gk ≤ 423624704 ∧ Own wr (fun b => w1.heap.size + 1 ≤ b) 3 1 v wait.length (wait.map intV) ∧
    wr.heap[w1.heap.size]? = some (.cells (out.map Value.bool).toArray 4 (0, 0)) ∧ Gr w1 wr

set_option maxHeartbeats 1000000 in
set_option maxRecDepth 100000 in
theorem reached_any (F : Nat) (f : It → Bool) (hF : Tells F f) (w : World) (ok : Nat → Prop) (A : Option Addr) (c : Nat) (p : List It) (k : Nat) (hp : Its w ok (.slice A p.length c) p) (hk : KOk p) (hr : ROk p)
    (hl : p.length ≤ 2097152) (hw : wt p ≤ 4194304) (hkl : k < p.length) :
    Calls Tryz.prog 49 #[.slice A p.length c, .int .i64 k, .func (.func F) #[] #[]] w (PVal fun v w' => Own w' (fun b => w.heap.size ≤ b) 4 1 v (cnt p) ((reach p f k).map Value.bool) ∧ Gr w w') := by
  have hcnt := cnt_le hk
  have hcnt : cnt p ≤ 209715200 := by omega
  obtain ⟨hcf, hF⟩ := hF
  have hmk := fun u => make_bools u (cnt p) (by omega)
  obtain ⟨b, o, A', c', rfl, -, -, -, -, c2, hrefs⟩ := hp.at_ hkl
  have hrl := refs_le_wt hkl
  have hcost := cost_start hk
  go_enter Tryz.func49, Tryz.ntmps49
  go_wp2_with (first
    | (go_at_call 46; refine (owners_any w ok _ c p hp hk hl).mono ?_; rintro e w1 ⟨v1, rfl, ho1, hg1⟩; obtain ⟨Ao, co, rfl⟩ := ho1.val; have c2' := ((hg1).alloc (.cells (Array.replicate (cnt p) (Value.bool false)) 4)).cell c2
       obtain ⟨v2, w2, hrun, hown2, hfr2, -, -⟩ := run_append (P := Tryz.prog) (t := 29) (t' := 29) (ty := 29) (w := w1.alloc (.cells (Array.replicate (cnt p) (Value.bool false)) 4)) (ok := fun b => w1.heap.size + 1 ≤ b) elem3 Tryz.underlying29 Tryz.underlying29 (Own.nil _ _ 3 1) (hrefs.gr (hg1.alloc _)) (by simp [intV, Value.oneCell']) (by simp only [maxLen]; omega) (by omega) (fun b hb => by simpa using hb)
       have Hr := Lib.hid hrun
       clear hrun)
    | (at_builtin; refine wpList_appended rfl _ _ _ _ rfl rfl rfl Hr ?_))
  clear c2 Hr hmk hrefs
  have hsz : w1.heap.size + 1 ≤ w2.heap.size := by have := hfr2.size; simpa using this
  have hblk : w2.heap[w1.heap.size]? = some (.cells ((List.replicate (cnt p) false).map Value.bool).toArray 4 (0, 0)) := by
    have h := hfr2.heap (heap_alloc_new w1 _) (by simp [Value.ownBlock])
    rw [h]; simp
  have hgr2 : Gr w1 w2 := Fr.trans ((Fr.refl _ w1).alloc _) (hfr2.mono (fun b _ hb => by simp [Value.ownBlock] at hb))
  go_loopg [9] ((it p k).refs.length + costOf (fun r => (refsAt p r).length) (List.replicate (cnt p) false) 0) (ReachRel w1 p f k)
  case atStart => exact ⟨_, _, Bfs.start hr hkl, rfl, by omega, by simpa using hown2, hblk, hgr2⟩
  case round =>
    obtain ⟨out, wait, hB, hgk, hgks, hownw, hblkr, hgr⟩ := hrel
    cases wait with
    | nil =>
      obtain ⟨Aw, cw, rfl⟩ := hownw.val
      have hdone := hB.done
      go_wp2
      go_ret
      refine ⟨_, rfl, ?_, hg1.trans hgr⟩
      rw [← hdone]
      refine ⟨by simp [hB.len], .inr ⟨w1.heap.size, 0, cnt p, _, rfl, hg1.size, hblkr, Nat.le_refl _, by simp only [maxLen]; omega, by simp [hB.len], ?_⟩⟩
      rw [List.drop_zero, List.take_of_length_le (by simp [hB.len])]
    | cons x rest =>
      simp only [List.length_cons] at hownw
      obtain ⟨g, og, cap, cur, rfl, hgB, hgheap, hcap, hcur, hcw⟩ := hownw.at_ (by simp)
      obtain ⟨r, rfl, hrr⟩ := hB.queue x (by simp)
      have hrl := hrr.lt hr hkl
      obtain ⟨hol, hos1, hos2⟩ := own_spec hrl
      obtain ⟨bo, oo, rfl, -, -, hof⟩ := Ints.at_ (k := r) ho1.ints (by simpa [ints, cnt] using hrl)
      have cof := hof (own p r) (by simp [ints, owners_getD hrl])
      obtain ⟨b9, o9, A9, c9, he9, -, -, q0, q1, q2, hrefs9⟩ := (hp.gr hg1).at_ hol
      simp only [Option.some.injEq, Addr.mk.injEq, and_true] at he9
      obtain ⟨rfl, rfl⟩ := he9
      obtain ⟨og2, hsl, htail⟩ := slice_tail g og rest.length cap (by simpa using hcap)
      have cw : wr.cell? ⟨g, og, none⟩ = some (.int .i64 (r : Int)) := hcw 0 _ rfl
      obtain ⟨bo1, hb1⟩ := get_lt (l := out) (k := r) (by rw [hB.len]; exact hrl)
      have cm : wr.cell? ⟨w1.heap.size, r, none⟩ = some (.bool bo1) := by rw [cell_row hblkr]; simp [hb1]
      have fm : wr.frozen? ⟨w1.heap.size, r, none⟩ = false := frozen_row hblkr r
      have hownt := htail wr _ _ _ _ hownw
      have hlw : rest.length + 1 ≤ 423624704 := by simp at hgk; omega
      cases bo1 with
      | true =>
        have Hgk := Lib.hid hgk
        have Hblk := Lib.hid hblkr
        have Hb1 := Lib.hid hb1
        clear hgk hcw htail hof hblkr hb1 hgheap cof q0 q1 q2
        go_wp2
        go_roundg (gk - 1)
        case measure => have := Hgk.out; simp at this; omega
        case rel =>
          refine ⟨out, rest, hB.skip Hb1.out, ?_, by omega, hownt, Hblk.out, hgr⟩
          have := Hgk.out
          simp only [List.length_cons] at this
          omega
      | false =>
        have hgr5 : Gr w1 (wr.setCell ⟨w1.heap.size, r, none⟩ (.bool true)) := hgr.step (fr_set wr w1.heap.size r _) (fun b hb => by omega)
        have hownt5 := hownt.fr (fr_set wr w1.heap.size r (.bool true)) (fun b hb e => by have := (hownt.blk b hb).1; omega)
        have hblk5 : (wr.setCell ⟨w1.heap.size, r, none⟩ (.bool true)).heap[w1.heap.size]? = some (.cells ((out.set r true).map Value.bool).toArray 4 (0, 0)) := by
          simp [World.setCell, Array.getElem?_modify, hblkr, List.map_set]
        have cof5 := hgr5.cell cof
        have q05 := hgr5.cell q0
        have q15 := hgr5.cell q1
        have q25 := hgr5.cell q2
        have hrefs5 := hrefs9.gr hgr5
        have Hgk := Lib.hid hgk
        have Hblk := Lib.hid hblk5
        have Hb1 := Lib.hid hb1
        have Hcost := Lib.hid (cost_set (fun r => (refsAt p r).length) out 0 r hb1)
        have hrle := refs_le_wt hol
        clear hgk hcw htail hof hblkr hb1 hgheap hblk5 cof q0 q1 q2 hownt
        cases hf : f (it p (own p r)) with
        | false =>
          have Hmark := Lib.hid (hB.mark (more := []) hr hrl (by rw [if_neg (by simp [hf])]))
          have Hf := Lib.hid hf
          clear hf
          go_wp2_with ((with_reducible refine (hF (it p (own p r)) A9 _ c9 _).mono ?_); rintro e w6 ⟨rfl, hg6⟩; simp only [Hf.out])
          go_roundg (rest.length + costOf (fun r => (refsAt p r).length) (out.set r true) 0)
          case measure =>
            have h1 := Hgk.out
            have h2 := Hcost.out
            simp only [List.length_cons] at h1
            omega
          case rel =>
            refine ⟨out.set r true, rest, by simpa using Hmark.out, rfl, ?_, (hownt5.gr ((Gr.refl _).alloc _)).gr hg6, ?_, (hgr5.alloc _).trans hg6⟩
            · have h1 := Hgk.out
              have h2 := Hcost.out
              simp only [List.length_cons] at h1
              omega
            · exact Fr.heap (((Gr.refl _).alloc _).trans hg6) Hblk.out id
        | true =>
          have Hmark := Lib.hid (hB.mark (more := refsAt p r) hr hrl (by rw [if_pos hf]))
          have Hf := Lib.hid hf
          have Hlen : Hid (rest.length + (refsAt p r).length + costOf (fun r => (refsAt p r).length) (out.set r true) 0 < gk) := by
            have h1 := Hgk.out
            have h2 := Hcost.out
            simp only [List.length_cons, Nat.zero_add] at h1 h2
            show _ < _
            omega
          clear hf
          go_wp2_with (first
            | ((with_reducible refine (hF (it p (own p r)) A9 _ c9 _).mono ?_); rintro e w6 ⟨rfl, hg6⟩; simp only [Hf.out]
               have c26 : w6.cell? ⟨wr.heap.size, 2, none⟩ = some (.slice A9 (it p (own p r)).refs.length c9) := hg6.cell (by have := cell_row (heap_alloc_new (wr.setCell ⟨w1.heap.size, r, none⟩ (.bool true)) (.cells #[.int .i64 (it p (own p r)).kind, .int .i64 (it p (own p r)).many, .slice A9 (it p (own p r)).refs.length c9] 47)) 2; simpa [World.setCell] using this)
               obtain ⟨v7, w7, hrun, hown7, hfr7, -, -⟩ := run_append (P := Tryz.prog) (t := 29) (t' := 29) (ty := 29) elem3 Tryz.underlying29 Tryz.underlying29 ((hownt5.gr ((Gr.refl _).alloc _)).gr hg6) ((hrefs5.gr ((Gr.refl _).alloc _)).gr hg6) (by simp [intV, Value.oneCell']) (by have h3 := Hlen.out; unfold refsAt at h3; simp only [maxLen]; omega) (by have h3 := Hlen.out; unfold refsAt at h3; omega) (fun b hb => by have h1 := ((hgr5.alloc _).trans hg6).size; have h4 := hg6.size; simp only [World.size_alloc] at h4; have h5 := (hownt5.blk g rfl).2; have h6 := (hownt5.blk g rfl).1; omega)
               have Hr := Lib.hid hrun
               clear hrun)
            | (at_builtin; refine wpList_appended rfl _ _ _ _ rfl rfl rfl Hr ?_))
          go_roundg (rest.length + (refsAt p r).length + costOf (fun r => (refsAt p r).length) (out.set r true) 0)
          case measure => exact Hlen.out
          case rel =>
            refine ⟨out.set r true, rest ++ refsAt p r, Hmark.out, by simp, ?_, by simpa [refsAt] using hown7, ?_, ((hgr5.alloc _).trans hg6).step hfr7 (fun b hb => ?_)⟩
            · have h1 := Hlen.out
              omega
            · exact Fr.heap hfr7 (Fr.heap (((Gr.refl _).alloc _).trans hg6) Hblk.out id) (fun e => by simp [Value.ownBlock] at e; omega)
            · simp [Value.ownBlock] at hb; omega
end Go.Proofs.YtelfaljidgfphaaGreat
