/-
  The walk of 'findPath' where no references lead there: it finds none.
-/
import Derived.Test.YtelfaljidgfphaaGreatF1
import Derived.Test.YtelfaljidgfphaaGreatG2
namespace Go.Proofs.YtelfaljidgfphaaGreat
open Go.RowKit

theorem elem108 : ElemOk Tryz.prog 108 .nilIface 1 16 := ElemOk.mk' info108 rfl (by decide)

theorem rch_more {p : List It} {x d y : Nat} (hd : E0 p x d) (h : Rch p fAll (own p d) y) : Rch p fAll (own p x) y := by
  induction h with
  | ref h1 => exact .step (.ref hd) rfl h1
  | step _ h2 h3 ih => exact .step ih h2 h3

/-- Another map is turned. -/
theorem Built.frMap {B : Nat} {p : List It} {L om : Nat} {g : Gh} {ks : Nat → List Nat} {w w' : World} (h : Built B p L om g ks w) {sm : Nat} {enc : Nat → Value} {n : Nat} {l : List Nat} {val : Nat → Value} (hm : NMap w sm enc n l val) (h1 : om ≠ sm) (h2 : ∀ k, k < p.length → g.dm k ≠ sm)
    (hf : Fr (fun b => b = sm) w w') : Built B p L om g ks w' where
  obj i hi := hf.heap (h.obj i hi) (fun e => hm.ne (h.obj i hi) e.symm)
  objGe := h.objGe
  objInj := h.objInj
  row := by
    obtain ⟨ls, h3, h4⟩ := h.row
    exact ⟨ls, hf.heap h3 (fun e => hm.ne h3 e.symm), h4⟩
  dcl k hk := hf.heap (h.dcl k hk) (fun e => hm.ne (h.dcl k hk) e.symm)
  dclGe := h.dclGe
  dclInj := h.dclInj
  dep k hk := (h.dep k hk).fr hf (h2 k hk)
  depGe := h.depGe
  depInj := h.depInj
  lone := h.lone
  lhs k hk h3 := (h.lhs k hk h3).fr hf (fun b hb e => by obtain ⟨cur, hc⟩ := (h.lhs k hk h3).row hb; exact hm.ne hc e.symm)
  omap := h.omap.fr hf h1
  maps := h.maps

def FRel1 (p : List It) (g : Gh) (dm bx it : Nat) (ksx : List Nat) (w1 : World) (k : Nat) (wr : World) : Prop :=
  ∃ (rem done : List Nat) (A : Option Addr) (c : Nat), rem.length = k ∧ NIter wr it dm (g.enc p) (cnt p) ksx (fun _ => .bool true) rem ∧ wr.heap[bx]? = some (.cells #[.slice A done.length c] 73 (0, 0)) ∧
    Own wr (fun b => w1.heap.size ≤ b) 108 1 (.slice A done.length c) done.length (done.map (g.enc p)) ∧ (∀ x ∈ done, x ∈ ksx) ∧ done.length + rem.length = ksx.length ∧ Gr w1 wr
def FRel2 (p : List It) (g : Gh) (sm : Nat) (ds seen : List Nat) (x : Nat) (w4 : World) (v : Value) (wr : World) : Prop :=
  ∃ (t : Nat) (seen' : List Nat), t ≤ ds.length ∧ v = .int .i64 (t : Int) ∧ NMap wr sm (g.enc p) (cnt p) seen' (fun _ => .bool true) ∧ (∀ z ∈ seen, z ∈ seen') ∧ x ∈ seen' ∧ Fr (fun b => b = sm) w4 wr
/-- Nothing is found; what had been seen still is. -/
def PFind (p : List It) (g : Gh) (sm : Nat) (seen : List Nat) (w : World) (e : Ending) (w' : World) : Prop :=
  e = .returned (.slice none 0 0) ∧ ∃ seen', NMap w' sm (g.enc p) (cnt p) seen' (fun _ => .bool true) ∧ (∀ z ∈ seen, z ∈ seen') ∧ Fr (fun b => b = sm) w w'

set_option maxHeartbeats 4000000 in
set_option maxRecDepth 100000 in
/-- 'findPath(objMap, from, to, seen)' where no references lead from the one to the other. -/
theorem find_any {B : Nat} {p : List It} {L om sm : Nat} {g : Gh} {ks : Nat → List Nat} (hks : ∀ k d, k < p.length → (d ∈ ks k ↔ (d : Int) ∈ (it p k).refs)) (hcnt : cnt p ≤ 209715200) (h1 : om ≠ sm) (h2 : ∀ k, k < p.length → g.dm k ≠ sm) {y : Nat} (hy : y < cnt p) :
    ∀ (fuel : Nat) (w : World) (seen : List Nat) (x : Nat), cnt p ≤ seen.length + fuel → x < cnt p → ¬ Rch p fAll (own p x) y → Built B p L om g ks w → NMap w sm (g.enc p) (cnt p) seen (fun _ => .bool true) →
      Calls Tryz.prog 71 #[.map (some om), g.enc p x, g.enc p y, .map (some sm)] w (PFind p g sm seen w) := by
  intro fuel
  induction fuel with
  | zero =>
    intro w seen x hlen hx hno hB hS
    have hin : x ∈ seen := Classical.byContradiction fun hc => by
      have := nodup_length_le (n := cnt p) (l := x :: seen) (List.nodup_cons.2 ⟨hc, hS.1⟩) (fun z hz => by
        rcases List.mem_cons.1 hz with rfl | hz
        · exact hx
        · exact hS.2.1 z hz)
      simp at this
      omega
    have hlook := hS.look hB.keyOk Tryz.underlying113 zero4 hx
    rw [if_pos hin] at hlook
    go_enter Tryz.func71, Tryz.ntmps71
    go_wp2
    go_ret
    exact ⟨rfl, seen, hS, fun _ h => h, Fr.refl _ _⟩
  | succ fuel ih =>
    intro w seen x hlen hx hno hB hS
    have hlook := hS.look hB.keyOk Tryz.underlying113 zero4 hx
    by_cases hin : x ∈ seen
    · rw [if_pos hin] at hlook
      go_enter Tryz.func71, Tryz.ntmps71
      go_wp2
      go_ret
      exact ⟨rfl, seen, hS, fun _ h => h, Fr.refl _ _⟩
    · rw [if_neg hin] at hlook
      obtain ⟨w1, hput, hS1, hf1, hs1⟩ := hS.put hB.keyOk Tryz.underlying113 hx (.bool true)
      have hS1' := hS1.congr (val' := fun _ => .bool true) (fun _ _ => rfl) (fun j _ => by simp [putVal]) hS1.2.1
      have hks1 : putKs seen x = seen ++ [x] := by simp [putKs, hin]
      rw [hks1] at hS1'
      have hB1 := hB.frMap hS h1 h2 hf1
      obtain ⟨ho1, ho2, ho3⟩ := own_spec hx
      have hg2 := (Gr.refl w1).alloc (.cells #[.slice none 0 0] 73)
      have hB2 := hB1.gr hg2
      have hlook2 := hB2.omap.look hB2.keyOk Tryz.underlying78 zero110 hx
      rw [if_pos (by simpa using hx)] at hlook2
      have zdm : (w1.alloc (.cells #[.slice none 0 0] 73)).cell? ⟨g.dc (own p x), 2, none⟩ = some (.map (some (g.dm (own p x)))) := by rw [cell_row (hB2.dcl _ ho1)]; rfl
      obtain ⟨o3, hrange, hit⟩ := (hB2.dep _ ho1).range Tryz.underlying113
      have hksl : (ks (own p x)).length ≤ cnt p := nodup_length_le (hB.dep _ ho1).1 (hB.dep _ ho1).2.1
      have hbx0 : ((w1.alloc (.cells #[.slice none 0 0] 73)).alloc o3).heap[w1.heap.size]? = some (.cells #[.slice none 0 0] 73 (0, 0)) := Fr.heap ((Gr.refl _).alloc o3) (heap_alloc_new w1 _) id
      have hIh := Lib.hid ih
      have hHlen := Lib.hid hlen
      have hdmlt := (hB1.dep _ ho1).lt
      simp only [ptr] at hlook2
      simp only [World.size_alloc] at hrange hit
      clear ih hlen hS1 hs1
      go_enter Tryz.func71, Tryz.ntmps71
      go_wp2
      go_loopg [] (ks (own p x)).length (FRel1 p g (g.dm (own p x)) w1.heap.size (w1.heap.size + 1) (ks (own p x)) w1)
      case atStart => exact ⟨_, [], none, 0, rfl, hit, hbx0, Own.nil _ _ _ _, by simp, by simp, ((Gr.refl w1).alloc _).alloc _⟩
      case round =>
        rename World => wa
        clear hit hbx0 zdm hlook hput hlook2 hrange hB2
        obtain ⟨rem, done, A, c, hgk, hni, hbx, hown, hdk, hdl, hga⟩ := hrel
        have hwa := hga.size
        have hbxf := frozen_row hbx
        have hbxc : wa.cell? ⟨w1.heap.size, 0, none⟩ = some (.slice A done.length c) := by rw [cell_row hbx]; rfl
        have hitlt := hni.lt.2
        rcases hni.next (P := Tryz.prog) 0 with ⟨hr0, hnx⟩ | ⟨d, hd, wb, hnx, hent, hnib, hfb, hsb⟩
        · subst hr0
          have hBa := hB1.gr hga
          have hdn : ∀ z ∈ done, z < cnt p := fun z hz => (hB1.dep _ ho1).2.1 z (hdk z hz)
          have hdll : done.length ≤ cnt p := by simp at hdl; omega
          have hsrt := sort_objs hBa.obj hdn hown hbx (by omega)
          have HG : ∀ w4, Fr (fun b => (Value.slice A done.length c).ownBlock = some b) wa w4 → Gr w1 w4 ∧ w4.heap[w1.heap.size]? = some (.cells #[.slice A done.length c] 73 (0, 0)) := fun w4 hf4 =>
            ⟨hga.step hf4 (fun b hb => (hown.blk b hb).1), hf4.heap hbx (fun h => by obtain ⟨cur, hc⟩ := hown.row h; exact ne_cells hc hbx (by decide) rfl)⟩
          go_wp2_with (go_at_call 80; refine hsrt.mono ?_; rintro e w4 ⟨rfl, ds, hperm, ho4, hf4⟩; obtain ⟨hg4, hbx4⟩ := HG w4 hf4; have hbx4c : w4.cell? ⟨w1.heap.size, 0, none⟩ = some (.slice A done.length c) := (by rw [cell_row hbx4]; rfl))
          have hpl := hperm.length_eq
          have hB4 := hB1.gr hg4
          have hS4 := hS1'.fr hg4 id
          have hdsE : ∀ z ∈ ds, z < cnt p ∧ E0 p x z := fun z hz => by
            have h3 := hdk z (hperm.mem_iff.1 hz)
            exact ⟨(hB1.dep _ ho1).2.1 z h3, (hks _ _ ho1).1 h3⟩
          rw [← hpl] at ho4
          have hrow4 : ∀ b, (Value.slice A ds.length c).ownBlock = some b → ¬ b = sm := fun b hb e => by
            obtain ⟨cur, hc⟩ := ho4.row hb
            exact hS4.ne hc e.symm
          rw [← hpl]
          rw [← hpl] at hdll
          clear hpl hdl
          clear hsrt HG hbx hbxc hbxf hown hni hnx hbx4c hbx4
          go_loopw [40] (FRel2 p g sm ds seen x w4) (fun i _ => ds.length - (intOf i).toNat)
          case atStart => exact ⟨0, seen ++ [x], by omega, rfl, hS4, fun z hz => by simp [hz], by simp, Fr.refl _ _⟩
          case round =>
            rename World => wr
            obtain ⟨t, seen', htl, rfl, hSr, hsub, hxs, hfr⟩ := hrel
            by_cases hlt : t < ds.length
            · obtain ⟨d, hdt⟩ := get_lt hlt
              obtain ⟨hdn, hdE⟩ := hdsE d (List.mem_of_getElem? hdt)
              have hor := ho4.fr hfr hrow4
              obtain ⟨gb, o, cap, cur, he, -, -, -, -, hcell⟩ := hor.at_ (by omega)
              simp only [Value.slice.injEq] at he
              obtain ⟨rfl, -, rfl⟩ := he
              have y0 := hcell t (g.enc p d) (by simp [hdt])
              have hBr := hB4.frMap hS4 h1 h2 hfr
              have hne : d ≠ y := fun e => hno (by subst e; exact .ref hdE)
              have heq0 := hBr.keyOk.eq d y hdn hy
              have heq : (binOp BinOp.eql 108 (g.enc p d) (g.enc p y)).run Tryz.prog wr = .ok (.bool false) wr := by
                simp only [Gh.enc, ifc, ptr] at heq0 ⊢
                simp [binOp, heq0, hne]
              have hgu : (eqGuard BinOp.eql 108 (Operand.tmp 44) (Operand.tmp 45) (g.enc p d) (g.enc p y)).run Tryz.prog wr = .ok () wr := by
                unfold eqGuard Gh.enc ifc; rfl
              clear heq0
              have hlen2 : cnt p ≤ seen'.length + fuel := by
                have h5 := nodup_sub_length (a := x :: seen) (b := seen') (List.nodup_cons.2 ⟨hin, hS.1⟩) (fun z hz => by
                  rcases List.mem_cons.1 hz with rfl | hz
                  · exact hxs
                  · exact hsub z hz)
                have := hHlen.out
                simp at h5
                omega
              have hcall := hIh.out wr seen' d hlen2 hdn (fun hc => hno (rch_more hdE hc)) hBr hSr
              clear hcell hor
              go_wp2_with (go_at_call 71; refine hcall.mono ?_; rintro e w5 ⟨rfl, seen2, hS5, hsub5, hf5⟩)
              go_roundw
              case rel => exact ⟨t + 1, seen2, by omega, by go_num, hS5, fun z hz => hsub5 z (hsub z hz), hsub5 x hxs, hfr.trans hf5⟩
              case measure => simp [intOf]; omega
            · go_wp2
              go_ret
              refine ⟨rfl, seen', hSr, hsub, ?_⟩
              exact (hf1.trans (hg4.mono fun _ _ h => h.elim)).trans hfr
        · replace hent := hent Tryz.prog
          have hdn : d < cnt p := hni.2.1 d (hni.2.2.2.1 d hd)
          have hgb : Gr w1 wb := hga.step hfb (fun b hb => by omega)
          have hrowb := hfb.heap hbx (by omega)
          have hbxb : wb.cell? ⟨w1.heap.size, 0, none⟩ = some (.slice A done.length c) := by rw [cell_row hrowb]; rfl
          have hbxfb := frozen_row hrowb
          have hitn : ∀ b, (Value.slice A done.length c).ownBlock = some b → ¬ b = w1.heap.size + 1 := fun b hb e => by
            obtain ⟨cur, hc⟩ := hown.row hb
            obtain ⟨_, _, _, _, es, kk, ss, _, h3, _⟩ := hni
            rw [e, h3] at hc
            cases hc
          have hbn : ∀ b, (Value.slice A done.length c).ownBlock = some b → ¬ b = w1.heap.size := fun b hb e => by
            obtain ⟨cur, hc⟩ := hown.row hb
            exact ne_cells hc hbx (by decide) e
          have hdlen : done.length ≤ 1099511627776 := by omega
          obtain ⟨v9, w9, Hr9, ho9, hf9, hf9b, hblk9, -⟩ := app1 (P := Tryz.prog) (t := 73) (ty := 73) elem108 Tryz.underlying73 (hown.fr hfb hitn) (g.enc p d) rfl (by omega) hdlen (by omega)
          obtain ⟨A9, c9, rfl⟩ := ho9.val
          have hrow9 := hf9.heap hrowb (fun h => hbn _ h rfl)
          have hbx9 : w9.cell? ⟨w1.heap.size, 0, none⟩ = some (.slice A done.length c) := by rw [cell_row hrow9]; rfl
          have hbxf9 := frozen_row hrow9
          have hset := heap_setCell_same _ _ 0 _ _ (.slice A9 (done.length + 1) c9) hrow9
          simp only [hsb] at Hr9
          simp only [Gh.enc, ifc, ptr] at hnx hent Hr9
          go_wp2_with (at_builtin; refine wpList_appended rfl _ _ _ _ rfl rfl rfl Hr9 ?_)
          go_roundg (rem.erase d).length
          case rel =>
            have hfs := fr_set w9 w1.heap.size 0 (.slice A9 (done.length + 1) c9)
            have hown0 : ∀ b, (Value.slice A done.length c).ownBlock = some b → w1.heap.size ≤ b := fun b hb => (hown.blk b hb).1
            have hnm : ∀ {u : World}, u.heap[w1.heap.size]? = some (.cells #[.slice A done.length c] 73 (0, 0)) → ∀ es k, u.heap[w1.heap.size]? ≠ some (.map es k) := fun h es k h' => by rw [h] at h'; cases h'
            have hdmb : g.dm (own p x) ≠ w1.heap.size := by omega
            refine ⟨rem.erase d, done ++ [d], A9, c9, rfl, ?_, ?_, ?_, ?_, ?_, ?_⟩
            · exact (hnib.fr hf9 (fun h => by have := hown0 _ h; omega) (fun h => hitn _ h rfl)).fr hfs hdmb (by omega)
            · simpa using hset
            · have ho10 := ho9.fr hfs (fun b hb e => by
                obtain ⟨cur, hc⟩ := ho9.row hb
                exact ne_cells hc hrow9 (by decide) e)
              simpa using ho10
            · intro z hz
              rcases List.mem_append.1 hz with h | h
              · exact hdk z h
              · simp at h; subst h; exact hni.2.2.2.1 _ hd
            · have := List.length_pos_of_mem hd
              rw [List.length_erase_of_mem hd]
              simp
              omega
            · exact (hgb.step hf9 hown0).step hfs (fun b hb => by omega)
          case measure =>
            rw [List.length_erase_of_mem hd]
            have := List.length_pos_of_mem hd
            omega
end Go.Proofs.YtelfaljidgfphaaGreat
