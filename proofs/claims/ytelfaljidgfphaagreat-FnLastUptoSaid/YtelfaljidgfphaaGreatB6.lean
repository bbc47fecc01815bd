/-
  The walk of 'Fit': whether declarations are such as the statements speak of.
-/
import Derived.Test.YtelfaljidgfphaaGreatB5
namespace Go.Proofs.YtelfaljidgfphaaGreat
open Go.RowKit

def IOk (x : It) : Prop := 0 ≤ x.kind ∧ x.kind < 5 ∧ (x.kind = 1 → 2 ≤ x.many ∧ x.many ≤ 100) ∧ (x.kind ≠ 1 → x.many = 0) ∧ (x.kind = 2 → x.refs = [])

/-- The ways through the test of a declaration. -/
inductive IWay (x : It) : Prop
  | neg (h : decide (x.kind < 0) = true) (bad : Hid (¬ IOk x))
  | big (h0 : decide (x.kind < 0) = false) (h : decide (5 ≤ x.kind) = true) (bad : Hid (¬ IOk x))
  | few (h0 : decide (x.kind < 0) = false) (h : decide (5 ≤ x.kind) = false) (h1 : (x.kind == 1) = true) (h2 : decide (x.many < 2) = true) (bad : Hid (¬ IOk x))
  | many (h0 : decide (x.kind < 0) = false) (h : decide (5 ≤ x.kind) = false) (h1 : (x.kind == 1) = true) (h2 : decide (x.many < 2) = false) (h3 : decide (100 < x.many) = true) (bad : Hid (¬ IOk x))
  | group (h0 : decide (x.kind < 0) = false) (h : decide (5 ≤ x.kind) = false) (h1 : (x.kind == 1) = true) (h1' : (x.kind != 1) = false) (h2 : decide (x.many < 2) = false) (h3 : decide (100 < x.many) = false) (h4 : (x.kind == 2) = false) (good : Hid (IOk x))
  | other (h0 : decide (x.kind < 0) = false) (h : decide (5 ≤ x.kind) = false) (h1 : (x.kind == 1) = false) (h1' : (x.kind != 1) = true) (h2 : (x.many != 0) = true) (bad : Hid (¬ IOk x))
  | plainBad (h0 : decide (x.kind < 0) = false) (h : decide (5 ≤ x.kind) = false) (h1 : (x.kind == 1) = false) (h1' : (x.kind != 1) = true) (h2 : (x.many != 0) = false) (h4 : (x.kind == 2) = true) (h5 : 0 < x.refs.length) (bad : Hid (¬ IOk x))
  | plain (h0 : decide (x.kind < 0) = false) (h : decide (5 ≤ x.kind) = false) (h1 : (x.kind == 1) = false) (h1' : (x.kind != 1) = true) (h2 : (x.many != 0) = false) (h4 : (x.kind == 2) = true) (h5 : ¬ 0 < x.refs.length) (good : Hid (IOk x))
  | fine (h0 : decide (x.kind < 0) = false) (h : decide (5 ≤ x.kind) = false) (h1 : (x.kind == 1) = false) (h1' : (x.kind != 1) = true) (h2 : (x.many != 0) = false) (h4 : (x.kind == 2) = false) (good : Hid (IOk x))

theorem iway (x : It) : IWay x := by
  by_cases h0 : x.kind < 0
  · exact .neg (by simpa using h0) (by show ¬ _; unfold IOk; omega)
  by_cases h : 5 ≤ x.kind
  · exact .big (by simpa using h0) (by simpa using h) (by show ¬ _; unfold IOk; omega)
  by_cases h1 : x.kind = 1
  · by_cases h2 : x.many < 2
    · exact .few (by simpa using h0) (by simpa using h) (by simpa using h1) (by simpa using h2) (by show ¬ _; unfold IOk; omega)
    by_cases h3 : 100 < x.many
    · exact .many (by simpa using h0) (by simpa using h) (by simpa using h1) (by simpa using h2) (by simpa using h3) (by show ¬ _; unfold IOk; omega)
    · exact .group (by simpa using h0) (by simpa using h) (by simpa using h1) (by simpa using h1) (by simpa using h2) (by simpa using h3) (by simp [h1])
        ⟨by omega, by omega, fun _ => ⟨by omega, by omega⟩, fun h => absurd h1 h, fun h => by omega⟩
  · by_cases h2 : x.many = 0
    · by_cases h4 : x.kind = 2
      · cases h5 : x.refs with
        | nil => exact .plain (by simpa using h0) (by simpa using h) (by simpa using h1) (by simpa using h1) (by simpa using h2) (by simpa using h4) (by simp [h5]) ⟨by omega, by omega, fun h => absurd h h1, fun _ => h2, fun _ => h5⟩
        | cons a l => exact .plainBad (by simpa using h0) (by simpa using h) (by simpa using h1) (by simpa using h1) (by simpa using h2) (by simpa using h4) (by simp [h5]) (fun hk => by have := hk.2.2.2.2 h4; rw [h5] at this; cases this)
      · exact .fine (by simpa using h0) (by simpa using h) (by simpa using h1) (by simpa using h1) (by simpa using h2) (by simpa using h4)
          ⟨by omega, by omega, fun h => absurd h h1, fun _ => h2, fun h => absurd h h4⟩
    · exact .other (by simpa using h0) (by simpa using h) (by simpa using h1) (by simpa using h1) (by simpa using h2) (by show ¬ _; unfold IOk; omega)

theorem not_fit_of_item {p : List It} {k : Nat} (hk : k < p.length) (h : ¬ IOk (it p k)) : ¬ Fit p := fun hf => h (hf.2.1 _ (it_mem hk))

def FitRel1 (w : World) (p : List It) (i : Value) (wr : World) : Prop := ∃ k : Nat, k ≤ p.length ∧ i = .int .i64 k ∧ (∀ j, j < k → IOk (it p j)) ∧ Gr w wr
def FitRel2 (w : World) (p : List It) (i : Value) (wr : World) : Prop := ∃ k : Nat, k ≤ p.length ∧ i = .int .i64 k ∧ (∀ j, j < k → ∀ r ∈ (it p j).refs, 0 ≤ r ∧ r < (cnt p : Int)) ∧ Gr w wr
def FitRel3 (w : World) (p : List It) (k : Nat) (i : Value) (wr : World) : Prop := ∃ m : Nat, m ≤ (it p k).refs.length ∧ i = .int .i64 m ∧ (∀ r ∈ (it p k).refs.take m, 0 ≤ r ∧ r < (cnt p : Int)) ∧ Gr w wr
def FitRel4 (w : World) (p : List It) (i : Value) (wr : World) : Prop := ∃ k : Nat, k ≤ p.length ∧ i = .int .i64 k ∧ (∀ j, j < k → (it p j).kind = 4 → ¬ Rch p fAll j (start p j)) ∧ Gr w wr

theorem kok_of {p : List It} (h : ∀ j, j < p.length → IOk (it p j)) : KOk p := by
  intro x hx
  obtain ⟨j, hj⟩ := List.mem_iff_getElem?.1 hx
  have hjl := (List.getElem?_eq_some_iff.1 hj).1
  have := h j hjl
  rw [it_of hj] at this
  exact this
theorem rok_of {p : List It} (h : ∀ j, j < p.length → ∀ r ∈ (it p j).refs, 0 ≤ r ∧ r < (cnt p : Int)) : ROk p := by
  intro x hx
  obtain ⟨j, hj⟩ := List.mem_iff_getElem?.1 hx
  have hjl := (List.getElem?_eq_some_iff.1 hj).1
  have := h j hjl
  rw [it_of hj] at this
  exact this

theorem objs_zero {p : List It} {k : Nat} (h : 1 ≤ (it p k).n) : (objs p k)[0]? = some (start p k) := by
  unfold objs
  cases hn : (it p k).n with
  | zero => omega
  | succ n => simp [List.range'_succ]
theorem intsV_get {l : List Nat} {i x : Nat} (h : l[i]? = some x) : ((ints l).map intV)[i]? = some (.int .i64 (x : Int)) := by
  simp [ints, intV, h]

open Classical in
theorem reach_get {p : List It} {f : It → Bool} {k r : Nat} (hr : r < cnt p) : ∃ b, (reach p f k)[r]? = some b ∧ (b = true ↔ Rch p f k r) := by
  refine ⟨_, by unfold reach; rw [List.getElem?_map, List.getElem?_range hr]; rfl, by simp⟩

set_option maxHeartbeats 4000000 in
set_option maxRecDepth 100000 in
theorem Fit_any (w : World) (ok : Nat → Prop) (A : Option Addr) (c : Nat) (p : List It) (hp : Its w ok (.slice A p.length c) p) (hw : wt p ≤ 4194304) :
    Calls Tryz.prog 35 #[.slice A p.length c] w (PBool w (Fit p)) := by
  have hpl := length_le_wt p
  by_cases hl : p.length ≤ 1048576
  · have hl' : ¬ (1048576 < (p.length : Int)) := by omega
    go_enter Tryz.func35, Tryz.ntmps35
    go_wp2
    go_loopw [17] (FitRel1 w p) (fun i _ => p.length - (intOf i).toNat)
    case atStart => exact ⟨0, by omega, rfl, by omega, Gr.refl w⟩
    case round =>
      obtain ⟨k, hkp, rfl, hall, hgr⟩ := hrel
      by_cases hlt : k < p.length
      · obtain ⟨b, o, A', c', rfl, -, -, c0, c1, c2, -⟩ := (hp.gr hgr).at_ hlt
        have Hall := Lib.hid hall
        have Next := Lib.hid (fun (h : IOk (it p k)) j (hj : j < k + 1) => if e : j = k then e ▸ h else hall j (by omega) : IOk (it p k) → ∀ j, j < k + 1 → IOk (it p j))
        have Bad := Lib.hid (fun h => ⟨fun (e : false = true) => (by cases e), fun hf => absurd hf (not_fit_of_item hlt h)⟩ : ¬ IOk (it p k) → (false = true ↔ Fit p))
        clear hall
        rcases iway (it p k) with ⟨h0, bad⟩ | ⟨h0, h, bad⟩ | ⟨h0, h, h1, h2, bad⟩ | ⟨h0, h, h1, h2, h3, bad⟩ | ⟨h0, h, h1, h1', h2, h3, h4, good⟩ | ⟨h0, h, h1, h1', h2, bad⟩ | ⟨h0, h, h1, h1', h2, h4, h5, bad⟩ | ⟨h0, h, h1, h1', h2, h4, h5, good⟩ | ⟨h0, h, h1, h1', h2, h4, good⟩
        all_goals
          first
            | (go_wp2
               go_ret
               exact ⟨false, rfl, Bad.out bad.out, hgr.alloc _⟩)
            | (go_wp2
               go_roundw
               case rel => exact ⟨k + 1, by omega, by go_num, Next.out good.out, hgr.alloc _⟩
               case measure => simp [intOf]; omega)
      · have hk0 : k = p.length := by omega
        subst hk0
        have hk := kok_of hall
        have hcnt := cnt_le hk
        have hcnt : cnt p ≤ 104857600 := by omega
        have Hall := Lib.hid hall
        clear hall
        go_wp2_with (go_at_call 46; refine (owners_any wr ok _ c p (hp.gr hgr) hk (by omega)).mono ?_; rintro e w1 ⟨v1, rfl, ho1, hg1⟩; obtain ⟨Ao, co, rfl⟩ := ho1.val)
        have hgr1 := hgr.trans hg1
        clear hgr
        go_loopw [71] (FitRel2 w p) (fun i _ => p.length - (intOf i).toNat)
        case atStart => exact ⟨0, by omega, rfl, by omega, hgr1⟩
        case round =>
          rename World => w3
          obtain ⟨k, hkp, rfl, hall, hgr⟩ := hrel
          by_cases hlt : k < p.length
          · obtain ⟨b, o, A', c', rfl, -, -, c0, c1, c2, hrefs⟩ := hp.at_ hlt
            have c0' := hgr.cell c0
            have c1' := hgr.cell c1
            have c2' := hgr.cell c2
            clear c0 c1 c2
            have Hall2 := Lib.hid hall
            have hrl := refs_le_wt hlt
            clear hall
            go_wp2
            go_loopw [78] (FitRel3 w p k) (fun i _ => (it p k).refs.length - (intOf i).toNat)
            case atStart => exact ⟨0, by omega, rfl, by simp, hgr.alloc _⟩
            case round =>
              rename World => w4
              obtain ⟨m, hm, rfl, hall, hgr4⟩ := hrel
              by_cases hml : m < (it p k).refs.length
              · obtain ⟨x, hx⟩ := get_lt hml
                obtain ⟨b2, o2, rfl, -, -, hc⟩ := (hrefs.gr hgr4).at_ hml
                have cx := hc x hx
                have Hx := Lib.hid hx
                have Hall3 := Lib.hid hall
                have hmi : (m : Int) < ((it p k).refs.length : Int) := by omega
                clear hc hx hall
                by_cases h0 : x < 0
                · have h0' : decide (x < 0) = true := by simpa using h0
                  go_wp2
                  go_ret
                  exact ⟨false, rfl, ⟨fun h => (by cases h), fun hf => by have := hf.2.2.1 _ (it_mem hlt) x (List.mem_of_getElem? Hx.out); omega⟩, hgr4⟩
                · by_cases h1 : (cnt p : Int) ≤ x
                  · have h0' : decide (x < 0) = false := by simpa using h0
                    have h1' : decide ((cnt p : Int) ≤ x) = true := by simpa using h1
                    go_wp2
                    go_ret
                    exact ⟨false, rfl, ⟨fun h => (by cases h), fun hf => by have := hf.2.2.1 _ (it_mem hlt) x (List.mem_of_getElem? Hx.out); omega⟩, hgr4⟩
                  · have h0' : decide (x < 0) = false := by simpa using h0
                    have h1' : decide ((cnt p : Int) ≤ x) = false := by simpa using h1
                    go_wp2
                    go_roundw
                    case rel =>
                      refine ⟨m + 1, by omega, by go_num, ?_, hgr4⟩
                      rw [take_snoc Hx.out]
                      intro r hr
                      rcases List.mem_append.1 hr with h | h
                      · exact Hall3.out r h
                      · simp at h; subst h; omega
                    case measure => simp [intOf]; omega
              · have hm0 : m = (it p k).refs.length := by omega
                subst hm0
                rw [List.take_length] at hall
                go_wp2
                go_roundw
                case rel =>
                  refine ⟨k + 1, by omega, by go_num, ?_, hgr4⟩
                  intro j hj
                  by_cases e : j = k
                  · subst e; exact hall
                  · exact Hall2.out j (by omega)
                case measure => simp [intOf]; omega
          · have hk0 : k = p.length := by omega
            subst hk0
            have hr := rok_of hall
            clear hall
            go_wp2
            go_loopw [93] (FitRel4 w p) (fun i _ => p.length - (intOf i).toNat)
            case atStart => exact ⟨0, by omega, rfl, by omega, hgr⟩
            case round =>
              rename World => w5
              obtain ⟨k, hkp, rfl, hall, hgr⟩ := hrel
              by_cases hlt : k < p.length
              · obtain ⟨b, o, A', c', rfl, -, -, c0, c1, c2, -⟩ := (hp.gr hgr).at_ hlt
                have Hall2 := Lib.hid hall
                clear hall
                have hn := n_pos hk (it_mem hlt)
                have hst := start_lt (p := p) (k := k) (j := 0) hlt (by omega)
                by_cases h4 : (it p k).kind = 4
                · have h4' : ((it p k).kind == 4) = true := by simpa using h4
                  have H4 := Lib.hid h4
                  obtain ⟨bb, hbb, hbr⟩ := reach_get (p := p) (f := fAll) (k := k) (r := start p k) (by simpa using hst)
                  have Hbb := Lib.hid hbb
                  have Hbr := Lib.hid hbr
                  clear h4 hbb hbr
                  go_wp2_with (first
                    | (go_at_call 49; refine (reached_any 51 fAll tells_all _ ok _ c p k (hp.gr (hgr.alloc _)) hk hr (by omega) hw hlt).mono ?_; rintro e w6 ⟨v6, rfl, ho6, hg6⟩; obtain ⟨A6, c6, rfl⟩ := ho6.val)
                    | (go_at_call 31; refine (Objects_any _ ok _ c p k (hp.gr ((hgr.alloc _).trans hg6)) hp.cap hk (by omega) hlt).mono ?_; rintro e w7 ⟨v7, rfl, ho7, hg7⟩
                       obtain ⟨g7, o7, cap7, cur7, rfl, -, -, hcap7, -, hc7⟩ := ho7.at_ (by omega)
                       have q7 : w7.cell? ⟨g7, o7, none⟩ = some (.int .i64 (start p k : Nat)) := hc7 0 _ (intsV_get (objs_zero hn.1))
                       obtain ⟨g6, o6, cap6, cur6, he6, -, -, hcap6, -, hc6⟩ := (ho6.gr hg7).at_ (by omega)
                       simp only [Value.slice.injEq, true_and] at he6
                       obtain ⟨rfl, rfl⟩ := he6
                       have q6 : w7.cell? ⟨g6, o6 + start p k, none⟩ = some (.bool bb) := hc6 _ _ (by rw [List.getElem?_map, Hbb.out]; rfl)
                       clear hc7 hc6))
                  · go_ret
                    have hb : bb = true := by assumption
                    exact ⟨false, rfl, ⟨fun h => (by cases h), fun hf => absurd (Hbr.out.1 hb) (hf.2.2.2 k hlt H4.out)⟩, ((hgr.alloc _).trans hg6).trans hg7⟩
                  · go_roundw
                    case rel =>
                      have hb : bb = false := by assumption
                      refine ⟨k + 1, by omega, by go_num, ?_, ((hgr.alloc _).trans hg6).trans hg7⟩
                      intro j hj
                      by_cases e : j = k
                      · subst e; exact fun _ h => by rw [Hbr.out.2 h] at hb; cases hb
                      · exact Hall2.out j (by omega)
                    case measure => simp [intOf]; omega
                · have h4' : ((it p k).kind == 4) = false := by simpa using h4
                  have H4 := Lib.hid h4
                  clear h4
                  go_wp2
                  go_roundw
                  case rel =>
                    refine ⟨k + 1, by omega, by go_num, ?_, hgr.alloc _⟩
                    intro j hj
                    by_cases e : j = k
                    · subst e; exact fun h => absurd h H4.out
                    · exact Hall2.out j (by omega)
                  case measure => simp [intOf]; omega
              · have hk0 : k = p.length := by omega
                subst hk0
                go_wp2
                go_ret
                exact ⟨true, rfl, ⟨fun _ => ⟨hl, hk, hr, hall⟩, fun _ => rfl⟩, hgr⟩
  · have hl' : 1048576 < (p.length : Int) := by omega
    go_enter Tryz.func35, Tryz.ntmps35
    go_wp2
    go_ret
    exact ⟨false, rfl, ⟨fun h => (by cases h), fun h => absurd h.1 hl⟩, Gr.refl w⟩
end Go.Proofs.YtelfaljidgfphaaGreat
