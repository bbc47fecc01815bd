/-
  The walks of container/heap.
-/
import Derived.Test.YtelfaljidgfphaaGreatH5
namespace Go.Proofs.YtelfaljidgfphaaGreat
open Go.RowKit

def hv (pq : Nat) : Value := .iface 127 (.pointer (some ⟨pq, 0, none⟩))

section
variable {p : List It} {B : Nat} {g : Gh} {nd : Nat → Nat} {mb : Bool → Nat → Option Nat} {ks : Bool → Nat → List Nat} {dp : Nat → Int} {pq : Nat} {A : Option Addr} {c : Nat} {q : List Nat} {w w' : World}

theorem Qu.mLess (h : Qu p B g nd mb ks dp pq A c q w) : (method 318 127 (.pointer (some ⟨pq, 0, none⟩)) "Less").run Tryz.prog w = .ok (162, .slice A q.length c) w := meth_less w pq _ h.boxCell 317
theorem Qu.mSwap (h : Qu p B g nd mb ks dp pq A c q w) : (method 318 127 (.pointer (some ⟨pq, 0, none⟩)) "Swap").run Tryz.prog w = .ok (163, .slice A q.length c) w := meth_swap w pq _ h.boxCell 317
theorem Qu.mLen (h : Qu p B g nd mb ks dp pq A c q w) : (method 318 127 (.pointer (some ⟨pq, 0, none⟩)) "Len").run Tryz.prog w = .ok (161, .slice A q.length c) w := meth_len w pq _ h.boxCell 317

set_option maxRecDepth 100000 in
/-- 'Len()' -/
theorem len_any (A : Option Addr) (n c : Nat) (w : World) : Calls Tryz.prog 161 #[.slice A n c] w (fun e w' => e = .returned (.int .i64 (n : Int)) ∧ w' = w) := by
  go_enter Tryz.func161, Tryz.ntmps161
  go_wp2
  go_ret
  exact ⟨rfl, rfl⟩

/-- Two places of a queue exchanged, as its keys see it. -/
theorem keyAt_swl {i j : Nat} (hi : i < q.length) (hj : j < q.length) (k : Nat) : keyAt p dp (swl q i j) k = sw (keyAt p dp q) i j k := by
  unfold keyAt
  rw [swl_getD hi hj]
  unfold sw
  split
  · rfl
  · split <;> rfl

end

/-- What a step of 'down' keeps; q is the row ahead of it. -/
def DownRel (p : List It) (B : Nat) (g : Gh) (nd : Nat → Nat) (mb : Bool → Nat → Option Nat) (ks : Bool → Nat → List Nat) (dp : Nat → Int) (pq : Nat) (A : Option Addr) (c : Nat) (q : List Nat) (w : World) (lo i0 n : Nat) (v : Value) (wr : World) : Prop :=
  ∃ (i : Nat) (q' : List Nat), v = .int .i64 (i : Int) ∧ i ≤ 1099511627776 ∧ i0 ≤ i ∧ Hole lo n i (keyAt p dp q') ∧ Qu p B g nd mb ks dp pq A c q' wr ∧ q'.Perm q ∧ (∀ k, n ≤ k → q'[k]? = q[k]?) ∧ Fr (AtQ (cnt p) nd pq A) w wr ∧
    ((i = i0 ∧ q' = q) ∨ (i0 < i ∧ ¬ ∀ k, 0 < k → k < n → (k - 1) / 2 = i0 → keyAt p dp q i0 ≤ keyAt p dp q k))

/-- What 'down' leaves. -/
def PDown (p : List It) (B : Nat) (g : Gh) (nd : Nat → Nat) (mb : Bool → Nat → Option Nat) (ks : Bool → Nat → List Nat) (dp : Nat → Int) (pq : Nat) (A : Option Addr) (c : Nat) (q : List Nat) (w : World) (lo i0 n : Nat) (e : Ending) (w' : World) : Prop :=
  ∃ (b : Bool) (q' : List Nat), e = .returned (.bool b) ∧ HeapF lo n (keyAt p dp q') ∧ Qu p B g nd mb ks dp pq A c q' w' ∧ q'.Perm q ∧ (∀ k, n ≤ k → q'[k]? = q[k]?) ∧ Fr (AtQ (cnt p) nd pq A) w w' ∧
    ((∀ k, 0 < k → k < n → (k - 1) / 2 = i0 → keyAt p dp q i0 ≤ keyAt p dp q k) → b = false ∧ q' = q)

section
variable {p : List It} {B : Nat} {g : Gh} {nd : Nat → Nat} {mb : Bool → Nat → Option Nat} {ks : Bool → Nat → List Nat} {dp : Nat → Int} {pq : Nat} {A : Option Addr} {c : Nat} {q : List Nat} {w w' : World}

/-- The end of 'down': at i nothing below is less. -/
theorem DownRel.fin {lo i0 n i : Nat} {q' : List Nat} {wr w' : World} (hi0 : i0 ≤ i) (hh : Hole lo n i (keyAt p dp q')) (hq : Qu p B g nd mb ks dp pq A c q' w') (hp : q'.Perm q) (ht : ∀ k, n ≤ k → q'[k]? = q[k]?) (hf : Fr (AtQ (cnt p) nd pq A) w wr) (hg : Gr wr w')
    (hc : (i = i0 ∧ q' = q) ∨ (i0 < i ∧ ¬ ∀ k, 0 < k → k < n → (k - 1) / 2 = i0 → keyAt p dp q i0 ≤ keyAt p dp q k)) (hle : ∀ k, 0 < k → k < n → (k - 1) / 2 = i → keyAt p dp q' i ≤ keyAt p dp q' k) :
    PDown p B g nd mb ks dp pq A c q w lo i0 n (.returned (.bool (decide (i0 < i)))) w' := by
  refine ⟨_, q', rfl, hh.done hle, hq, hp, ht, hf.trans (hg.mono fun _ _ h => h.elim), fun hfine => ?_⟩
  rcases hc with ⟨rfl, h⟩ | ⟨h1, h2⟩
  · exact ⟨by simp, h⟩
  · exact absurd hfine h2

/-- A step of 'down': j is the least of those below i. -/
theorem DownRel.next {lo i0 n i j : Nat} {q' : List Nat} {wr w1 w2 : World} (hi0 : i0 ≤ i) (hh : Hole lo n i (keyAt p dp q')) (hp : q'.Perm q) (ht : ∀ k, n ≤ k → q'[k]? = q[k]?) (hf : Fr (AtQ (cnt p) nd pq A) w wr) (hg : Gr wr w1)
    (hc : (i = i0 ∧ q' = q) ∨ (i0 < i ∧ ¬ ∀ k, 0 < k → k < n → (k - 1) / 2 = i0 → keyAt p dp q i0 ≤ keyAt p dp q k)) (hn : n ≤ q'.length) (hl : q'.length ≤ 1099511627776) (hj : j < n) (hji : (j - 1) / 2 = i) (hj0 : 0 < j) (hlt : keyAt p dp q' j < keyAt p dp q' i)
    (hle : ∀ k, 0 < k → k < n → (k - 1) / 2 = i → keyAt p dp q' j ≤ keyAt p dp q' k) (hq : Qu p B g nd mb ks dp pq A c (swl q' i j) w2) (hf2 : Fr (AtQ (cnt p) nd pq A) w1 w2) :
    DownRel p B g nd mb ks dp pq A c q w lo i0 n (.int .i64 (j : Int)) w2 := by
  have hi' : i < q'.length := by omega
  have hj' : j < q'.length := by omega
  refine ⟨j, _, rfl, by omega, by omega, ?_, hq, (swl_perm hi' hj').trans hp, fun k hk => ?_, (hf.trans (hg.mono fun _ _ h => h.elim)).trans hf2, .inr ⟨by omega, ?_⟩⟩
  · have := hh.step hj0 hj hji hlt hle
    have e : keyAt p dp (swl q' i j) = sw (keyAt p dp q') i j := funext fun k => keyAt_swl hi' hj' k
    rw [e]; exact this
  · obtain ⟨r, hr⟩ := get_lt hi'
    obtain ⟨s, hs⟩ := get_lt hj'
    rw [swl_get hr hs, if_neg (by omega), if_neg (by omega)]
    exact ht k hk
  · rcases hc with ⟨rfl, rfl⟩ | ⟨h1, h2⟩
    · intro hfine
      have := hfine j hj0 hj hji
      omega
    · exact h2

set_option maxHeartbeats 4000000 in
set_option maxRecDepth 100000 in
/-- 'down(h, i0, n)' -/
theorem down_any (h : Qu p B g nd mb ks dp pq A c q w) {lo i0 n : Nat} (hi0 : i0 ≤ 1099511627776) (hn : n ≤ q.length) (hl : q.length ≤ 1099511627776) (hh : Hole lo n i0 (keyAt p dp q)) :
    Calls Tryz.prog 79 #[.iface 127 (.pointer (some ⟨pq, 0, none⟩)), .int .i64 (i0 : Int), .int .i64 (n : Int)] w (PDown p B g nd mb ks dp pq A c q w lo i0 n) := by
  go_enter Tryz.func79, Tryz.ntmps79
  go_wp2
  go_loopw [7] (DownRel p B g nd mb ks dp pq A c q w lo i0 n) (fun i _ => n - (intOf i).toNat)
  case atStart => exact ⟨i0, q, rfl, hi0, Nat.le_refl _, hh, h, List.Perm.refl _, fun _ _ => rfl, Fr.refl _ _, .inl ⟨rfl, rfl⟩⟩
  case round =>
    clear h hh
    obtain ⟨i, q', rfl, hib, hii, hh, hq, hp, ht, hf, hc⟩ := hrel
    have hpl := hp.length_eq
    have hn' : n ≤ q'.length := by omega
    have hl' : q'.length ≤ 1099511627776 := by omega
    have Hc := Lib.hid hc
    have Hh := Lib.hid hh
    have Hp := Lib.hid hp
    have Ht := Lib.hid ht
    have Hii := Lib.hid hii
    have Hn := Lib.hid hn'
    have Hl := Lib.hid hl'
    have Hpl := Lib.hid hpl
    have Hn0 := Lib.hid hn
    have Hl0 := Lib.hid hl
    clear hc hh hp ht hii hpl hn hl
    obtain ⟨j1, hj1⟩ : ∃ j1 : Nat, j1 = 2 * i + 1 := ⟨_, rfl⟩
    obtain ⟨j2, hj2⟩ : ∃ j2 : Nat, j2 = 2 * i + 2 := ⟨_, rfl⟩
    have e1 : 2 * (i : Int) + 1 = (j1 : Int) := by omega
    have e2 : (j1 : Int) + 1 = (j2 : Int) := by omega
    have b1 : (j1 : Int) ≤ 2199023255553 := by omega
    have c1 : ¬ (j1 : Int) < 0 := by omega
    have Hj1 := Lib.hid hj1
    have Hj2 := Lib.hid hj2
    have mL := hq.mLess
    have b0 : (0 : Int) ≤ j1 := by omega
    have b2 : (j2 : Int) ≤ 2199023255554 := by omega
    have hlow : -9223372036854775808 ≤ (i : Int) := by omega
    clear hj1 hj2
    by_cases h1 : j1 < n
    · have d1 : ¬ (n : Int) ≤ (j1 : Int) := by omega
      have l1 : j1 < q'.length := by have := Hn.out; omega
      have li : i < q'.length := by have := Hn.out; omega
      by_cases h2 : j2 < n
      · have d2 : (j2 : Int) < (n : Int) := by omega
        have l2 : j2 < q'.length := by have := Hn.out; omega
        by_cases h3 : keyAt p dp q' j2 < keyAt p dp q' j1
        · have d3 : decide (keyAt p dp q' j2 < keyAt p dp q' j1) = true := by simp [h3]
          have hmin : Hid (∀ k, 0 < k → k < n → (k - 1) / 2 = i → keyAt p dp q' j2 ≤ keyAt p dp q' k) := Lib.hid (fun k hk0 hk hki => by
            have := Hj1.out; have := Hj2.out
            have : k = j1 ∨ k = j2 := by omega
            rcases this with rfl | rfl <;> omega)
          have H3 := Lib.hid h3
          clear h3
          by_cases h4 : keyAt p dp q' j2 < keyAt p dp q' i
          · have d4 : decide (keyAt p dp q' j2 < keyAt p dp q' i) = true := by simp [h4]
            have H4 := Lib.hid h4
            clear h4
            go_wp2_with (first | (go_at_call 163; refine (hqC.swap li l2).mono ?_; rintro e w5 ⟨rfl, hq5, hf5⟩) | (go_at_call 162; refine (hqB.less l2 li).mono ?_; rintro e w4 ⟨rfl, hg4⟩; have hqC := hqB.gr hg4; have mS4 := hqC.mSwap) | (go_at_call 162; refine (hq.less l2 l1).mono ?_; rintro e w3 ⟨rfl, hg3⟩; have hqB := hq.gr hg3; have mL3 := hqB.mLess; have mS3 := hqB.mSwap))
            go_roundw
            case rel => exact DownRel.next Hii.out Hh.out Hp.out Ht.out hf (hg3.trans hg4) Hc.out Hn.out Hl.out h2 (by have := Hj1.out; have := Hj2.out; omega) (by have := Hj1.out; have := Hj2.out; omega) H4.out hmin.out hq5 hf5
            case measure => have := Hj1.out; have := Hj2.out; simp [intOf]; omega
          · have d4 : decide (keyAt p dp q' j2 < keyAt p dp q' i) = false := by simp [h4]
            have H4 := Lib.hid h4
            clear h4
            go_wp2_with (first | (go_at_call 163; refine (hqC.swap li l2).mono ?_; rintro e w5 ⟨rfl, hq5, hf5⟩) | (go_at_call 162; refine (hqB.less l2 li).mono ?_; rintro e w4 ⟨rfl, hg4⟩; have hqC := hqB.gr hg4; have mS4 := hqC.mSwap) | (go_at_call 162; refine (hq.less l2 l1).mono ?_; rintro e w3 ⟨rfl, hg3⟩; have hqB := hq.gr hg3; have mL3 := hqB.mLess; have mS3 := hqB.mSwap))
            go_ret
            have hfin := DownRel.fin Hii.out Hh.out hqC Hp.out Ht.out hf (hg3.trans hg4) Hc.out (fun k hk0 hk hki => by have h5 := hmin.out k hk0 hk hki; have h6 := H4.out; omega)
            simpa using hfin
        · have d3 : decide (keyAt p dp q' j2 < keyAt p dp q' j1) = false := by simp [h3]
          have hmin : Hid (∀ k, 0 < k → k < n → (k - 1) / 2 = i → keyAt p dp q' j1 ≤ keyAt p dp q' k) := Lib.hid (fun k hk0 hk hki => by
            have := Hj1.out; have := Hj2.out
            have : k = j1 ∨ k = j2 := by omega
            rcases this with rfl | rfl <;> omega)
          have H3 := Lib.hid h3
          clear h3
          by_cases h4 : keyAt p dp q' j1 < keyAt p dp q' i
          · have d4 : decide (keyAt p dp q' j1 < keyAt p dp q' i) = true := by simp [h4]
            have H4 := Lib.hid h4
            clear h4
            go_wp2_with (first | (go_at_call 163; refine (hqC.swap li l1).mono ?_; rintro e w5 ⟨rfl, hq5, hf5⟩) | (go_at_call 162; refine (hqB.less l1 li).mono ?_; rintro e w4 ⟨rfl, hg4⟩; have hqC := hqB.gr hg4; have mS4 := hqC.mSwap) | (go_at_call 162; refine (hq.less l2 l1).mono ?_; rintro e w3 ⟨rfl, hg3⟩; have hqB := hq.gr hg3; have mL3 := hqB.mLess; have mS3 := hqB.mSwap))
            go_roundw
            case rel => exact DownRel.next Hii.out Hh.out Hp.out Ht.out hf (hg3.trans hg4) Hc.out Hn.out Hl.out h1 (by have := Hj1.out; have := Hj2.out; omega) (by have := Hj1.out; have := Hj2.out; omega) H4.out hmin.out hq5 hf5
            case measure => have := Hj1.out; have := Hj2.out; simp [intOf]; omega
          · have d4 : decide (keyAt p dp q' j1 < keyAt p dp q' i) = false := by simp [h4]
            have H4 := Lib.hid h4
            clear h4
            go_wp2_with (first | (go_at_call 163; refine (hqC.swap li l1).mono ?_; rintro e w5 ⟨rfl, hq5, hf5⟩) | (go_at_call 162; refine (hqB.less l1 li).mono ?_; rintro e w4 ⟨rfl, hg4⟩; have hqC := hqB.gr hg4; have mS4 := hqC.mSwap) | (go_at_call 162; refine (hq.less l2 l1).mono ?_; rintro e w3 ⟨rfl, hg3⟩; have hqB := hq.gr hg3; have mL3 := hqB.mLess; have mS3 := hqB.mSwap))
            go_ret
            have hfin := DownRel.fin Hii.out Hh.out hqC Hp.out Ht.out hf (hg3.trans hg4) Hc.out (fun k hk0 hk hki => by have h5 := hmin.out k hk0 hk hki; have h6 := H4.out; omega)
            simpa using hfin
      · have d2 : ¬ (j2 : Int) < (n : Int) := by omega
        have hmin : Hid (∀ k, 0 < k → k < n → (k - 1) / 2 = i → keyAt p dp q' j1 ≤ keyAt p dp q' k) := Lib.hid (fun k hk0 hk hki => by
          have := Hj1.out; have := Hj2.out
          have : k = j1 := by omega
          subst this; omega)
        by_cases h4 : keyAt p dp q' j1 < keyAt p dp q' i
        · have d4 : decide (keyAt p dp q' j1 < keyAt p dp q' i) = true := by simp [h4]
          have H4 := Lib.hid h4
          clear h4
          go_wp2_with (first | (go_at_call 163; refine (hqC.swap li l1).mono ?_; rintro e w5 ⟨rfl, hq5, hf5⟩) | (go_at_call 162; refine (hq.less l1 li).mono ?_; rintro e w4 ⟨rfl, hg4⟩; have hqC := hq.gr hg4; have mS4 := hqC.mSwap))
          go_roundw
          case rel => exact DownRel.next Hii.out Hh.out Hp.out Ht.out hf hg4 Hc.out Hn.out Hl.out h1 (by have := Hj1.out; have := Hj2.out; omega) (by have := Hj1.out; have := Hj2.out; omega) H4.out hmin.out hq5 hf5
          case measure => have := Hj1.out; have := Hj2.out; simp [intOf]; omega
        · have d4 : decide (keyAt p dp q' j1 < keyAt p dp q' i) = false := by simp [h4]
          have H4 := Lib.hid h4
          clear h4
          go_wp2_with (first | (go_at_call 163; refine (hqC.swap li l1).mono ?_; rintro e w5 ⟨rfl, hq5, hf5⟩) | (go_at_call 162; refine (hq.less l1 li).mono ?_; rintro e w4 ⟨rfl, hg4⟩; have hqC := hq.gr hg4; have mS4 := hqC.mSwap))
          go_ret
          have hfin := DownRel.fin Hii.out Hh.out hqC Hp.out Ht.out hf hg4 Hc.out (fun k hk0 hk hki => by have h5 := hmin.out k hk0 hk hki; have h6 := H4.out; omega)
          simpa using hfin
    · have d1 : (n : Int) ≤ (j1 : Int) := by omega
      go_wp2
      go_ret
      have := Hj1.out
      have hfin := DownRel.fin Hii.out Hh.out hq Hp.out Ht.out hf (Gr.refl _) Hc.out (fun k hk0 hk hki => by omega)
      simpa using hfin
end
end Go.Proofs.YtelfaljidgfphaaGreat
