/-
  'up', 'Init', 'Fix' and 'Pop' of container/heap.
-/
import Derived.Test.YtelfaljidgfphaaGreatH7
namespace Go.Proofs.YtelfaljidgfphaaGreat
open Go.RowKit

def UpRel (p : List It) (B : Nat) (g : Gh) (nd : Nat → Nat) (mb : Bool → Nat → Option Nat) (ks : Bool → Nat → List Nat) (dp : Nat → Int) (pq : Nat) (A : Option Addr) (c : Nat) (q : List Nat) (w : World) (v : Value) (wr : World) : Prop :=
  ∃ (j : Nat) (q' : List Nat), v = .int .i64 (j : Int) ∧ j < q'.length ∧ UpH q'.length j (keyAt p dp q') ∧ Qu p B g nd mb ks dp pq A c q' wr ∧ q'.Perm q ∧ Fr (AtQ (cnt p) nd pq A) w wr
/-- What is left: a heap of the same nodes. -/
def PHeap (p : List It) (B : Nat) (g : Gh) (nd : Nat → Nat) (mb : Bool → Nat → Option Nat) (ks : Bool → Nat → List Nat) (dp : Nat → Int) (pq : Nat) (A : Option Addr) (c : Nat) (q : List Nat) (w : World) (e : Ending) (w' : World) : Prop :=
  e = .returned (.tuple #[]) ∧ ∃ q', HeapF 0 q'.length (keyAt p dp q') ∧ Qu p B g nd mb ks dp pq A c q' w' ∧ q'.Perm q ∧ Fr (AtQ (cnt p) nd pq A) w w'
def InitRel (p : List It) (B : Nat) (g : Gh) (nd : Nat → Nat) (mb : Bool → Nat → Option Nat) (ks : Bool → Nat → List Nat) (dp : Nat → Int) (pq : Nat) (A : Option Addr) (c : Nat) (q : List Nat) (w : World) (v : Value) (wr : World) : Prop :=
  ∃ (x : Int) (m : Nat) (q' : List Nat), v = .int .i64 x ∧ x = (m : Int) - 1 ∧ m ≤ q.length ∧ HeapF m q.length (keyAt p dp q') ∧ Qu p B g nd mb ks dp pq A c q' wr ∧ q'.Perm q ∧ Fr (AtQ (cnt p) nd pq A) w wr
def OutRel (w : World) (v : Value) (wr : World) : Prop := v = .int .i64 (-1) ∧ wr = w

section
variable {p : List It} {B : Nat} {g : Gh} {nd : Nat → Nat} {mb : Bool → Nat → Option Nat} {ks : Bool → Nat → List Nat} {dp : Nat → Int} {pq : Nat} {A : Option Addr} {c : Nat} {q : List Nat} {w w' : World}

set_option maxHeartbeats 4000000 in
set_option maxRecDepth 100000 in
/-- 'up(h, j)' -/
theorem up_any (h : Qu p B g nd mb ks dp pq A c q w) {j0 : Nat} (hj0 : j0 < q.length) (hl : q.length ≤ 1099511627776) (hu : UpH q.length j0 (keyAt p dp q)) :
    Calls Tryz.prog 82 #[.iface 127 (.pointer (some ⟨pq, 0, none⟩)), .int .i64 (j0 : Int)] w (PHeap p B g nd mb ks dp pq A c q w) := by
  go_enter Tryz.func82, Tryz.ntmps82
  go_wp2
  go_loopw [1] (UpRel p B g nd mb ks dp pq A c q w) (fun i _ => (intOf i).toNat)
  case atStart => exact ⟨j0, q, rfl, hj0, hu, h, List.Perm.refl _, Fr.refl _ _⟩
  case round =>
    clear h hu
    obtain ⟨j, q', rfl, hj, hu, hq, hp, hf⟩ := hrel
    have hpl := hp.length_eq
    have hl' : q'.length ≤ 1099511627776 := by omega
    have Hu := Lib.hid hu
    have Hp := Lib.hid hp
    clear hu hp hpl hl hj0
    obtain ⟨i, hi⟩ : ∃ i : Nat, i = (j - 1) / 2 := ⟨_, rfl⟩
    have e1 : Int.tdiv ((j : Int) - 1) 2 = (i : Int) := by
      by_cases h0 : j = 0
      · subst h0; subst hi; rfl
      · rw [Int.tdiv_eq_ediv_of_nonneg (by omega)]; omega
    have mL := hq.mLess
    have b1 : (j : Int) ≤ 1099511627776 := by omega
    have b2 : (i : Int) ≤ 1099511627776 := by omega
    have li : i < q'.length := by omega
    have Hi := Lib.hid hi
    have Hl := Lib.hid hl'
    clear hl' hi
    by_cases h0 : j = 0
    · have hi0 : i = 0 := by have := Hi.out; omega
      subst h0
      subst hi0
      go_wp2
      refine bodyPost_end0' rfl rfl ?_
      exact ⟨rfl, q', Hu.out.done (fun h => absurd h (by omega)), hq, Hp.out, hf⟩
    · have d0 : ¬ (i : Int) = (j : Int) := by have := Hi.out; omega
      have H0 := Lib.hid h0
      clear h0
      by_cases h4 : keyAt p dp q' j < keyAt p dp q' i
      · have d4 : decide (keyAt p dp q' j < keyAt p dp q' i) = true := by simp [h4]
        have H4 := Lib.hid h4
        clear h4
        go_wp2_with (first
          | (go_at_call 163; refine (hqC.swap li hj).mono ?_; rintro e w5 ⟨rfl, hq5, hf5⟩)
          | (go_at_call 162; refine (hq.less hj li).mono ?_; rintro e w4 ⟨rfl, hg4⟩; have hqC := hq.gr hg4; have mS4 := hqC.mSwap))
        go_roundw
        case rel =>
          have h5 := Hi.out
          have h6 := H0.out
          refine ⟨i, _, rfl, by rw [swl_length]; exact li, ?_, hq5, (swl_perm li hj).trans Hp.out, (hf.trans (hg4.mono fun _ _ h => h.elim)).trans hf5⟩
          rw [swl_length]
          have h7 := Hu.out.step (by omega) (by rw [← h5]; exact H4.out)
          rw [← h5] at h7
          have e : keyAt p dp (swl q' i j) = sw (keyAt p dp q') i j := funext fun k => keyAt_swl li hj k
          rw [e]; exact h7
        case measure => have := Hi.out; have := H0.out; simp [intOf]; omega
      · have d4 : decide (keyAt p dp q' j < keyAt p dp q' i) = false := by simp [h4]
        have H4 := Lib.hid h4
        clear h4
        go_wp2_with (go_at_call 162; refine (hq.less hj li).mono ?_; rintro e w4 ⟨rfl, hg4⟩; have hqC := hq.gr hg4)
        refine bodyPost_end0' rfl rfl ?_
        refine ⟨rfl, q', Hu.out.done (fun _ => ?_), hqC, Hp.out, hf.trans (hg4.mono fun _ _ h => h.elim)⟩
        have := H4.out
        rw [← Hi.out]
        omega

set_option maxHeartbeats 4000000 in
set_option maxRecDepth 100000 in
/-- 'Init(h)' -/
theorem init_any (h : Qu p B g nd mb ks dp pq A c q w) (hl : q.length ≤ 1099511627776) :
    Calls Tryz.prog 69 #[.iface 127 (.pointer (some ⟨pq, 0, none⟩))] w (PHeap p B g nd mb ks dp pq A c q w) := by
  have mL := h.mLen
  have e1 : Int.tdiv (q.length : Int) 2 = ((q.length / 2 : Nat) : Int) := by rw [Int.tdiv_eq_ediv_of_nonneg (by omega)]; omega
  have hll := len_any A q.length c
  go_enter Tryz.func69, Tryz.ntmps69
  go_wp2_with (go_at_call 161; refine (hll _).mono ?_; rintro e w1 ⟨rfl, rfl⟩)
  go_loopw [3] (InitRel p B g nd mb ks dp pq A c q w1) (fun i _ => (intOf i + 1).toNat)
  case atStart => exact ⟨_, q.length / 2, q, rfl, rfl, by omega, HeapF.init _ _, h, List.Perm.refl _, Fr.refl _ _⟩
  case round =>
    clear h
    obtain ⟨x, m, q', rfl, hx, hm, hh, hq, hp, hf⟩ := hrel
    have hpl := hp.length_eq
    cases m with
    | zero =>
      obtain rfl : x = -1 := by omega
      clear hx
      go_wp2
      refine bodyPost_end0' rfl rfl ?_
      exact ⟨rfl, q', by rw [hpl]; exact hh, hq, hp, hf⟩
    | succ i0 =>
      obtain rfl : x = (i0 : Int) := by omega
      clear hx
      have hhole := Hole.init hh
      have hq' : q.length ≤ q'.length := by omega
      have hl' : q'.length ≤ 1099511627776 := by omega
      have b0 : i0 ≤ 1099511627776 := by omega
      have Hp := Lib.hid hp
      clear hh hp
      go_wp2_with (go_at_call 79; refine (down_any hq (lo := i0) b0 hq' hl' hhole).mono ?_; rintro e w2 ⟨b, q2, rfl, hh2, hq2, hp2, -, hf2, -⟩)
      go_roundw
      case rel => refine ⟨(i0 : Int) - 1, i0, q2, ?_, rfl, by omega, hh2, hq2, hp2.trans Hp.out, hf.trans hf2⟩; go_num
      case measure => simp [intOf]

set_option maxHeartbeats 1000000 in
set_option maxRecDepth 100000 in
theorem down_out (n : Nat) (hn : n ≤ 1099511627776) (w : World) :
    Calls Tryz.prog 79 #[.iface 127 (.pointer (some ⟨pq, 0, none⟩)), .int .i64 (-1), .int .i64 (n : Int)] w (fun e w' => e = .returned (.bool false) ∧ w' = w) := by
  go_enter Tryz.func79, Tryz.ntmps79
  go_wp2
  go_loopw [7] (OutRel w) (fun _ _ => 0)
  case atStart => exact ⟨rfl, rfl⟩
  case round =>
    obtain ⟨rfl, rfl⟩ := hrel
    have d1 : ¬ (n : Int) ≤ -1 := by omega
    go_wp2
    go_ret
    exact ⟨rfl, rfl⟩
set_option maxHeartbeats 1000000 in
set_option maxRecDepth 100000 in
theorem up_out (w : World) :
    Calls Tryz.prog 82 #[.iface 127 (.pointer (some ⟨pq, 0, none⟩)), .int .i64 (-1)] w (fun e w' => e = .returned (.tuple #[]) ∧ w' = w) := by
  go_enter Tryz.func82, Tryz.ntmps82
  go_wp2
  go_loopw [1] (OutRel w) (fun _ _ => 0)
  case atStart => exact ⟨rfl, rfl⟩
  case round =>
    obtain ⟨rfl, rfl⟩ := hrel
    go_wp2
    refine bodyPost_end0' rfl rfl ?_
    exact ⟨rfl, rfl⟩

set_option maxHeartbeats 1000000 in
set_option maxRecDepth 100000 in
/-- 'Fix(h, i)' where i's node is no longer there. -/
theorem fix_out (h : Qu p B g nd mb ks dp pq A c q w) (hl : q.length ≤ 1099511627776) :
    Calls Tryz.prog 73 #[.iface 127 (.pointer (some ⟨pq, 0, none⟩)), .int .i64 (-1)] w (fun e w' => e = .returned (.tuple #[]) ∧ w' = w) := by
  have mL := h.mLen
  have hll := len_any A q.length c
  go_enter Tryz.func73, Tryz.ntmps73
  go_wp2_with (first
    | (go_at_call 161; refine (hll _).mono ?_; rintro e w1 ⟨rfl, rfl⟩)
    | (go_at_call 79; refine (down_out (pq := pq) q.length hl _).mono ?_; rintro e w2 ⟨rfl, rfl⟩)
    | (go_at_call 82; refine (up_out (pq := pq) _).mono ?_; rintro e w3 ⟨rfl, rfl⟩))
  refine bodyPost_end0' rfl rfl ?_
  exact ⟨rfl, rfl⟩

set_option maxHeartbeats 1000000 in
set_option maxRecDepth 100000 in
/-- 'Fix(h, i)' where i's key has become less. -/
theorem fix_any (h : Qu p B g nd mb ks dp pq A c q w) (hl : q.length ≤ 1099511627776) {j : Nat} (hj : j < q.length) (hu : UpH q.length j (keyAt p dp q)) (hfine : ∀ k, 0 < k → k < q.length → (k - 1) / 2 = j → keyAt p dp q j ≤ keyAt p dp q k) :
    Calls Tryz.prog 73 #[.iface 127 (.pointer (some ⟨pq, 0, none⟩)), .int .i64 (j : Int)] w (PHeap p B g nd mb ks dp pq A c q w) := by
  have mL := h.mLen
  have hll := len_any A q.length c
  have hhole : Hole j q.length j (keyAt p dp q) := ⟨fun k hk0 hk hlo hne => hu.1 k hk0 hk (by omega), fun _ _ _ _ h0 hlo => absurd hlo (by omega)⟩
  have b0 : j ≤ 1099511627776 := by omega
  have Hu := Lib.hid hu
  have Hf := Lib.hid hfine
  clear hu hfine
  go_enter Tryz.func73, Tryz.ntmps73
  go_wp2_with (first
    | (go_at_call 82; refine (up_any hq2 hj hl Hu.out).mono ?_; rintro e w3 ⟨rfl, q3, hh3, hq3, hp3, hf3⟩)
    | (go_at_call 161; refine (hll _).mono ?_; rintro e w1 ⟨rfl, rfl⟩)
    | (go_at_call 79; refine (down_any h (lo := j) b0 (Nat.le_refl _) hl hhole).mono ?_; rintro e w2 ⟨b, q2, rfl, -, hq2, -, -, hf2, hb⟩; obtain ⟨rfl, rfl⟩ := hb Hf.out))
  refine bodyPost_end0' rfl rfl ?_
  exact ⟨rfl, q3, hh3, hq3, hp3, hf2.trans hf3⟩

/-- What 'Pop' leaves: the least node, and a heap of the others. -/
def PPop (p : List It) (B : Nat) (g : Gh) (nd : Nat → Nat) (mb : Bool → Nat → Option Nat) (ks : Bool → Nat → List Nat) (dp : Nat → Int) (pq : Nat) (A : Option Addr) (c : Nat) (q : List Nat) (w : World) (e : Ending) (w' : World) : Prop :=
  ∃ (x : Nat) (q' : List Nat), e = .returned (.iface 83 (.pointer (some ⟨nd x, 0, none⟩))) ∧ HeapF 0 q'.length (keyAt p dp q') ∧ Qu p B g nd mb ks dp pq A c q' w' ∧ (x :: q').Perm q ∧ (∀ y ∈ q, qkey p dp x ≤ qkey p dp y) ∧ Fr (AtQ (cnt p) nd pq A) w w'

theorem keyAt_append {a b : List Nat} {k : Nat} (hk : k < a.length) : keyAt p dp (a ++ b) k = keyAt p dp a k := by
  unfold keyAt
  rw [List.getD_eq_getElem?_getD, List.getD_eq_getElem?_getD, List.getElem?_append_left hk]

set_option maxHeartbeats 1000000 in
set_option maxRecDepth 100000 in
/-- 'Pop(h)' -/
theorem heapPop_any (h : Qu p B g nd mb ks dp pq A c q w) (hl : q.length ≤ 1099511627776) (h0 : 0 < q.length) (hh : HeapF 0 q.length (keyAt p dp q)) :
    Calls Tryz.prog 70 #[.iface 127 (.pointer (some ⟨pq, 0, none⟩))] w (PPop p B g nd mb ks dp pq A c q w) := by
  have mL := h.mLen
  have mS := h.mSwap
  have hll := len_any A q.length c
  obtain ⟨n, hn⟩ : ∃ n, q.length = n + 1 := ⟨q.length - 1, by omega⟩
  have e1 : ((n + 1 : Nat) : Int) - 1 = (n : Int) := by omega
  have hhole : Hole 0 n 0 (keyAt p dp (swl q 0 n)) := by
    have e : keyAt p dp (swl q 0 n) = sw (keyAt p dp q) 0 n := funext fun k => keyAt_swl h0 (by omega) k
    rw [e]; rw [hn] at hh; exact Hole.pop hh
  have hn1 : n < q.length := by omega
  have hsl : (swl q 0 n).length = q.length := swl_length q 0 n
  have hn2 : n ≤ (swl q 0 n).length := by omega
  have hn3 : (swl q 0 n).length ≤ 1099511627776 := by omega
  obtain ⟨x, hx⟩ := get_lt h0
  obtain ⟨y, hy⟩ := get_lt hn1
  have hxn : (swl q 0 n)[n]? = some x := by rw [swl_get hx hy, if_pos rfl]
  have hle := hh.least
  have Hh := Lib.hid hh
  have Hle := Lib.hid hle
  have Hsl := Lib.hid hsl
  have Hn := Lib.hid hn
  have Hxn := Lib.hid hxn
  have Hx := Lib.hid hx
  have hz : (0 : Nat) ≤ 1099511627776 := by omega
  have hpm := Lib.hid (swl_perm h0 hn1)
  clear hh hle hsl hxn hx hy
  rw [hn] at hll mL
  have hsw := h.swap h0 hn1
  rw [hn] at hsw mS
  simp only [Int.ofNat_zero] at hsw
  have hdn : ∀ w2, Qu p B g nd mb ks dp pq A c (swl q 0 n) w2 → Calls Tryz.prog 79 #[.iface 127 (.pointer (some ⟨pq, 0, none⟩)), .int .i64 0, .int .i64 (n : Int)] w2 (PDown p B g nd mb ks dp pq A c (swl q 0 n) w2 0 0 n) := fun w2 h2 => down_any h2 (lo := 0) hz hn2 hn3 hhole
  clear hn
  go_enter Tryz.func70, Tryz.ntmps70
  go_wp2_with (first
    | (go_at_call 164; refine (hq3.pop hq3l).mono ?_; rintro e w4 ⟨rfl, hq4, hf4⟩)
    | (go_at_call 79; refine (hdn _ hq2).mono ?_; rintro e w3 ⟨b, q2, rfl, hh3, hq3', hp3, ht3, hf3, -⟩; have hq2l : q2.length = n + 1 := (by have := hp3.length_eq; have := Hsl.out; have := Hn.out; omega); obtain ⟨q0, hq0⟩ : ∃ q0, q2 = q0 ++ [x] := (by refine ⟨q2.take n, ?_⟩; have h9 : q2[n]? = some x := (by rw [ht3 n (Nat.le_refl _)]; exact Hxn.out); rw [← take_snoc h9, List.take_of_length_le (by omega)]); have hq3 : Qu p B g nd mb ks dp pq A c (q0 ++ [x]) w3 := hq0 ▸ hq3'; have mP := meth_pop w3 pq 317; have hq3l : (q0 ++ [x]).length ≤ 1099511627776 := (by rw [← hq0]; have := hp3.length_eq; omega); clear hq3')
    | (go_at_call 163; refine hsw.mono ?_; rintro e w2 ⟨rfl, hq2, hf2⟩)
    | (go_at_call 161; refine (hll _).mono ?_; rintro e w1 ⟨rfl, rfl⟩))
  go_ret
  subst hq0
  have hl0 : q0.length = n := by simp at hq2l; exact hq2l
  refine ⟨x, q0, rfl, ?_, hq4, ?_, fun y hy => ?_, (hf2.trans hf3).trans hf4⟩
  · intro j hj0 hj hlo
    have := hh3 j hj0 (by omega) hlo
    rwa [keyAt_append hj, keyAt_append (by omega)] at this
  · exact (List.perm_append_singleton x q0).symm.trans (hp3.trans hpm.out)
  · obtain ⟨i, hi, rfl⟩ := List.mem_iff_getElem.1 hy
    have := Hle.out i hi
    have hx0 := Hx.out
    unfold keyAt at this
    simpa [List.getD_eq_getElem?_getD, hx0, hi] using this
end
end Go.Proofs.YtelfaljidgfphaaGreat
