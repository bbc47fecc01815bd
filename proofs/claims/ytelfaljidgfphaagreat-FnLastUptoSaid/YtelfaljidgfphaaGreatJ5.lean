/-
  The walk of 'Graph' (package initorder) and of package impl's.
-/
import Derived.Test.YtelfaljidgfphaaGreatJ4
namespace Go.Proofs.YtelfaljidgfphaaGreat
open Go.RowKit

/-- The list of r in the result, once it is laid. -/
def sl (n : Nat) (ks : Bool → Nat → List Nat) (r : Nat) : List Int := ints ((List.range n).filter fun x => decide (x ∈ ks true r))
def slAt (n : Nat) (ks : Bool → Nat → List Nat) (l : List Nat) : List (List Int) := (List.range n).map fun r => if r ∈ l then sl n ks r else []

theorem slAt_nil (n : Nat) (ks : Bool → Nat → List Nat) : slAt n ks [] = List.replicate n [] := by
  unfold slAt
  apply List.ext_getElem?
  intro i
  simp [List.getElem?_replicate]
  by_cases h : i < n <;> simp [h]
theorem slAt_snoc (n : Nat) (ks : Bool → Nat → List Nat) (l : List Nat) {f : Nat} (hf : f < n) : slAt n ks (l ++ [f]) = (slAt n ks l).set f (sl n ks f) := by
  unfold slAt
  apply List.ext_getElem?
  intro i
  rw [List.getElem?_set]
  by_cases h : i < n
  · by_cases e : f = i
    · subst e; simp [h]
    · have : ¬ i = f := fun e' => e e'.symm
      simp [h, e, this]
  · by_cases e : f = i
    · omega
    · simp [h, e]

def GrRel (w3 : World) (gb n : Nat) (ks : Bool → Nat → List Nat) (lg : List Nat) (i : Value) (wr : World) : Prop :=
  ∃ t : Nat, t ≤ lg.length ∧ i = .int .i64 (t : Int) ∧ Fr (fun b => b = gb) w3 wr ∧ OwnLists wr gb (.slice (some ⟨gb, 0, none⟩) n n) (slAt n ks (lg.take t))
def GrRel2 (w0 : World) (it n : Nat) (nd : Nat → Nat) (m : Option Nat) (l : List Nat) (k : Nat) (v : Value) (wr : World) : Prop :=
  ∃ (rem done : List Nat) (A : Option Addr) (c : Nat), rem.length = k ∧ v = .slice A (ints done).length c ∧ SIter wr it m (fun i => ptr (nd i)) n l rem ∧ Gr w0 wr ∧ Own wr (fun b => w0.heap.size ≤ b) 3 1 v (ints done).length ((ints done).map intV) ∧ done.Nodup ∧ ∀ x, x ∈ done ↔ x ∈ l ∧ x ∉ rem

/-- What 'Graph' returns. -/
def PGraphL (w : World) (p : List It) (e : Ending) (w' : World) : Prop :=
  ∃ v lg fs ks, e = .returned v ∧ Gr w w' ∧ Lists w' (fun _ => True) v (slAt (cnt p) ks lg) ∧ (∀ r, r ∈ lg ↔ r < cnt p ∧ kindAt p r ≠ 3) ∧ fs.Nodup ∧ (∀ r, r ∈ fs ↔ r < cnt p ∧ kindAt p r = 3) ∧ Inv (cnt p) fs (EL p fs) ks

set_option maxHeartbeats 4000000 in
set_option maxRecDepth 100000 in
theorem Graph_any (w : World) (ok : Nat → Prop) (A : Option Addr) (c : Nat) (p : List It) (hp : Nds w ok (.slice A (cnt p) c) (nodesOf p (cnt p))) (hk : KOk p) (hr : ROk p) (hl : p.length ≤ 2097152) (hw : wt p ≤ 4194304) :
    Calls Tryz.prog 53 #[.slice A (cnt p) c] w (PGraphL w p) := by
  have hcnt := cnt_le hk
  have hcnt : cnt p ≤ 209715200 := by omega
  have hmk := fun u => make_lists u (cnt p) (by omega)
  go_enter Tryz.func53, Tryz.ntmps53
  go_wp2_with (first
    | (go_at_call 58; refine (build_any w ok A c p hp hk hr hl (fun k hk => by have := refs_le_wt hk; omega)).mono ?_; rintro e w1 ⟨cb, ib, om, L, g, ks, rfl, hcb, hib, hom, hL, zcb, zib, hB, hks, hg1⟩; have hB2 := hB.gr ((Gr.refl w1).alloc (.cells (Array.replicate (cnt p) (Value.slice none 0 0)) 29)); have zc := (cell_row (Fr.heap ((Gr.refl w1).alloc (.cells (Array.replicate (cnt p) (Value.slice none 0 0)) 29)) zcb id) 0))
    | (go_at_call 59; refine (graph_any _ _ _ _ p g ks hB2 hks hcnt).mono ?_; rintro e w3 ⟨B, lg, A3, c3, nd, mb, ks3, ix, dp, fs, rfl, hBs, hg3, ho3, hgs, hd1, hm1, hfd, hfm, hinv, hix⟩))
  have hsz1 : w1.heap.size < B := by simp only [World.size_alloc] at hBs; omega
  have hg23 : Gr w1 w3 := ((Gr.refl w1).alloc _).trans hg3
  have hobj3 : ∀ d, d < cnt p → w3.heap[g.ob d]? = some (.cells #[.string ⟨#[]⟩, .int .u32 (d : Int), .int .i64 (d : Int)] (tyE p d) (0, 0)) ∧ g.ob d < w1.heap.size := fun d hd => ⟨Fr.heap hg23 (hB.obj d hd) id, heap_lt (hB.obj d hd)⟩
  have hl0 := OwnLists.nils w1 (cnt p) (by simp only [maxLen]; omega)
  have hl3 := hl0.gr hg3
  have hlg : lg.length ≤ cnt p := nodup_length_le hd1 (fun x hx => ((hm1 x).1 hx).1)
  clear hB hB2 zc hl0 hix zcb zib
  go_loopw [24] (GrRel w3 w1.heap.size (cnt p) ks3 lg) (fun i _ => lg.length - (intOf i).toNat)
  case atStart => exact ⟨0, by omega, rfl, Fr.refl _ _, by rw [List.take_zero, slAt_nil]; exact hl3⟩
  case round =>
    clear hl3
    obtain ⟨t, htl, rfl, hf3, hol⟩ := hrel
    by_cases hlt : t < lg.length
    · have hgsr := hgs.fr hf3 (fun r hr e => by have := hgs.ge r hr; omega) (fun c r b hr hb e => by have := (hgs.set c r b hr hb).2; omega)
      have hor := ho3.fr hf3 (fun b hb e => by have := (ho3.blk b hb).1; omega)
      obtain ⟨g1, o1, cap1, cur1, he1, hok1, hgh1, hcap1, hsz, hcell1⟩ := hor.at_ (by omega)
      simp only [Value.slice.injEq] at he1
      obtain ⟨rfl, -, rfl⟩ := he1
      obtain ⟨f, hft⟩ := get_lt hlt
      have hfn : f < cnt p := ((hm1 f).1 (List.mem_of_getElem? hft)).1
      have y0 := hcell1 t (ptr (nd f)) (by simp [hft])
      clear hcell1
      have hnode := hgsr.node f hfn
      have y2 : wr.cell? ⟨nd f, 2, none⟩ = some (.map (mb true f)) := by rw [cell_row hnode]; rfl
      obtain ⟨o7, hrange, hit⟩ := hgsr.range true hfn
      have hwr := hf3.size
      have hgblt : w1.heap.size < wr.heap.size := by have := hg3.size; simp only [World.size_alloc] at this; omega
      have hobjr : ∀ d, d < cnt p → wr.heap[g.ob d]? = some (.cells #[.string ⟨#[]⟩, .int .u32 (d : Int), .int .i64 (d : Int)] (tyE p d) (0, 0)) := fun d hd => hf3.heap (hobj3 d hd).1 (fun e => by have := (hobj3 d hd).2; omega)
      simp only [ptr] at y0
      go_wp2
      go_loopg [8] (ks3 true f).length (GrRel2 wr wr.heap.size (cnt p) nd (mb true f) (ks3 true f))
      case atStart => exact ⟨_, [], none, 0, rfl, rfl, hit, (Gr.refl wr).alloc _, Own.nil _ _ _ _, List.nodup_nil, fun x => by simp⟩
      case round =>
        rename World => wd
        clear hit y2
        obtain ⟨rem, done, A8, c8, hgk, rfl, hi, hgd, hod, hdd, hdm⟩ := hrel
        have hin := hi.sub
        have hwd := hgd.size
        have hdl : (ints done).length ≤ cnt p := by
          rw [ints_length]
          exact nodup_length_le hdd (fun x hx => hgsr.ltN true hfn ((hdm x).1 hx).1)
        rcases hi.next 0 with ⟨hr0, hnx⟩ | ⟨d, hd, we, hnx, hent, hic, hfe, hse⟩
        · subst hr0
          have hdm' : ∀ x, x ∈ done ↔ x ∈ ks3 true f := fun x => by rw [hdm]; simp
          have hfilt : ((List.range (cnt p)).filter fun x => decide (x ∈ done)) = (List.range (cnt p)).filter fun x => decide (x ∈ ks3 true f) := List.filter_congr (fun x _ => by simp [hdm'])
          have hsort := sorted_list hdd (n := cnt p) (fun x hx => hgsr.ltN true hfn ((hdm' x).1 hx))
          rw [hfilt] at hsort
          obtain ⟨gvs, hv1, hv2, hv3⟩ := hol
          obtain ⟨gg, go, gcap, gcur, hge1, -, hgh, hgc, hgs1, hgcell⟩ := hv2.at_ (by rw [show (slAt (cnt p) ks3 (lg.take t)).length = cnt p by simp [slAt]]; omega)
          simp only [Value.slice.injEq, Option.some.injEq, Addr.mk.injEq, and_true] at hge1
          obtain ⟨⟨rfl, rfl⟩, hge2, rfl⟩ := hge1
          have hvl : gvs.length = cnt p := by rw [hv1]; simp [slAt]
          obtain ⟨gu, hgu⟩ := get_lt (l := gvs) (k := f) (by omega)
          have zg := hgcell f gu hgu
          rw [Nat.zero_add] at zg
          have zgf := frozen_row hgh
          have HS := Lib.hid hsort
          have HV := Lib.hid (show OwnLists wr w1.heap.size (.slice (some ⟨w1.heap.size, 0, none⟩) (cnt p) (cnt p)) (slAt (cnt p) ks3 (lg.take t)) from ⟨gvs, hv1, hv2, hv3⟩)
          clear hsort hfilt hdm' hdm hv1 hv2 hv3 hge2 hgcell hgs1 hgc
          go_wp2_with (first
            | (go_at_call 60; refine (number_any p w8 (Fr.heap hg8 (hobjr f hfn) id)).mono ?_; rintro e wn ⟨rfl, rfl⟩)
            | (go_at_call 61; refine (sort_ints hod (by omega)).mono ?_; rintro e w8 ⟨rfl, ho8, hf8⟩; have hg8 : Gr wr w8 := hgd.step hf8 (fun b hb => (hod.blk b hb).1); have z0 : w8.cell? ⟨nd f, 0, none⟩ = some (.iface (tyI p f) (.pointer (some ⟨g.ob f, 0, none⟩))) := (by rw [cell_row ((hgsr.gr hg8).node f hfn)]; rfl); have zg8 := Fr.cell hg8 zg id; have zgf8 := frozen_row (Fr.heap hg8 hgh id) f))
          go_roundw
          case rel =>
            refine ⟨t + 1, by omega, by go_num, (hf3.trans (Fr.mono hg8 (fun _ _ h => h.elim))).trans (fr_set _ _ _ _), ?_⟩
            rw [take_snoc hft, slAt_snoc _ _ _ hfn]
            rw [HS.out] at ho8
            have hlen : (ints done).length = (sl (cnt p) ks3 f).length := by
              have := congrArg List.length HS.out
              simpa [sl] using this
            have hu : Ints wn (fun b => b ≠ w1.heap.size) (.slice A8 (ints done).length c8) (sl (cnt p) ks3 f) := by
              have := ho8.arr.mono (ok' := fun b => b ≠ w1.heap.size) (fun b _ hb => by omega)
              rw [hlen] at this ⊢
              exact this
            have := (HV.out.gr hg8).set hu (r := f) (by simpa [slAt] using hfn)
            rw [Nat.zero_add] at this
            exact this
          case measure => simp [intOf]; omega
        · obtain ⟨hd0, hdn⟩ := hin.2 d hd
          have hge : Gr wr we := hgd.step hfe (fun b hb => by omega)
          have hgse := hgsr.gr hge
          have z0 : we.cell? ⟨nd d, 0, none⟩ = some (g.enc p d) := by rw [cell_row (hgse.node d hdn)]; rfl
          have hdnew : d ∉ done := fun h => ((hdm d).1 h).2 hd
          have hit8 : ∀ b, (Value.slice A8 (ints done).length c8).ownBlock = some b → ¬ b = wr.heap.size := fun b hb e => by
            obtain ⟨cur, hc⟩ := hod.row hb
            obtain ⟨_, _, _, _, h3⟩ := hi.iter
            rw [e, h3] at hc
            cases hc
          obtain ⟨v9, w9, Hr9, ho9, hf9, hf9b, hblk9, -⟩ := app1 (P := Tryz.prog) (t := 29) (ty := 29) elem3 Tryz.underlying29 (hod.fr hfe hit8) (.int .i64 (d : Int)) rfl (by omega) (by omega) (by omega)
          obtain ⟨A9, c9, rfl⟩ := ho9.val
          simp only [Gh.enc, ifc, ptr] at z0 hnx hent
          simp only [hse] at Hr9
          go_wp2_with (first
            | (go_at_call 60; refine (number_any p we (Fr.heap hge (hobjr d hdn) id)).mono ?_; rintro e wn ⟨rfl, rfl⟩)
            | (at_builtin; refine wpList_appended rfl _ _ _ _ rfl rfl rfl Hr9 ?_))
          go_roundg (rem.erase d).length
          case rel =>
            have hrow9 : ∀ b, (Value.slice A8 (ints done).length c8).ownBlock = some b → wr.heap.size ≤ b := fun b hb => (hod.blk b hb).1
            refine ⟨_, done ++ [d], A9, c9, rfl, by simp [ints], hic.fr hf9 (fun h => hit8 _ h rfl) (fun b hb h => by
              have := hrow9 b h
              have := (hgsr.set true f b hfn hb).1.lt
              omega), hge.step hf9 hrow9, by simpa [ints, intV] using ho9, nodup_snoc hdd hdnew, fun x => ?_⟩
            rw [List.Nodup.mem_erase_iff hin.1, List.mem_append, hdm]
            by_cases e : x = d
            · subst e; simp [hd0]
            · simp [e]
          case measure =>
            rw [List.length_erase_of_mem hd]
            have := List.length_pos_of_mem hd
            omega
    · have ht0 : t = lg.length := by omega
      subst ht0
      rw [List.take_length] at hol
      go_wp2
      go_ret
      exact ⟨_, lg, fs, ks3, rfl, (hg1.trans hg23).step hf3 (fun b hb => by have := hg1.size; omega), hol.lists, hm1, hfd, hfm, hinv⟩
end Go.Proofs.YtelfaljidgfphaaGreat
