/-
  The walk of 'Lone' (package spec).
-/
import Derived.Test.YtelfaljidgfphaaGreatB7
namespace Go.Proofs.YtelfaljidgfphaaGreat
open Go.RowKit

/-- What 'Lone' asks of one reference. -/
def LoneR (p : List It) (k r : Nat) : Prop := own p r ≠ k → (it p (own p r)).kind = 1 → r + 1 < cnt p → own p (r + 1) ≠ own p r
def LoneRel1 (w : World) (p : List It) (i : Value) (wr : World) : Prop := ∃ k : Nat, k ≤ p.length ∧ i = .int .i64 k ∧ (∀ j, j < k → ∀ r : Nat, (r : Int) ∈ (it p j).refs → LoneR p j r) ∧ Gr w wr
def LoneRel2 (w : World) (p : List It) (k : Nat) (i : Value) (wr : World) : Prop := ∃ m : Nat, m ≤ (it p k).refs.length ∧ i = .int .i64 m ∧ (∀ r : Nat, (r : Int) ∈ (it p k).refs.take m → LoneR p k r) ∧ Gr w wr

set_option maxHeartbeats 4000000 in
set_option maxRecDepth 100000 in
theorem Lone_any (w : World) (ok : Nat → Prop) (A : Option Addr) (c : Nat) (p : List It) (hp : Its w ok (.slice A p.length c) p) (hk : KOk p) (hr : ROk p) (hl : p.length ≤ 2097152) (hw : wt p ≤ 4194304) :
    Calls Tryz.prog 28 #[.slice A p.length c] w (PBool w (LoneP p)) := by
  have hcnt := cnt_le hk
  have hcnt : cnt p ≤ 209715200 := by omega
  go_enter Tryz.func28, Tryz.ntmps28
  go_wp2_with (go_at_call 46; refine (owners_any w ok A c p hp hk hl).mono ?_; rintro e w1 ⟨v1, rfl, ho1, hg1⟩; obtain ⟨Ao, co, rfl⟩ := ho1.val)
  go_loopw [13] (LoneRel1 w1 p) (fun i _ => p.length - (intOf i).toNat)
  case atStart => exact ⟨0, by omega, rfl, by omega, Gr.refl w1⟩
  case round =>
    obtain ⟨k, hkp, rfl, hall, hgr⟩ := hrel
    by_cases hlt : k < p.length
    · have hpr := hp.gr (hg1.trans hgr)
      obtain ⟨b, o, A', c', rfl, -, -, c0, c1, c2, hrefs⟩ := hpr.at_ hlt
      have Hall := Lib.hid hall
      have hrl := refs_le_wt hlt
      clear hall
      go_wp2
      go_loopw [21] (LoneRel2 wr p k) (fun i _ => (it p k).refs.length - (intOf i).toNat)
      case atStart => exact ⟨0, by omega, rfl, by simp, (Gr.refl wr).alloc _⟩
      case round =>
        rename World => w4
        clear c0 c1 c2
        obtain ⟨m, hm, rfl, hall, hgr4⟩ := hrel
        by_cases hml : m < (it p k).refs.length
        · obtain ⟨x, hx⟩ := get_lt hml
          obtain ⟨hx0, hx1⟩ := hr _ (it_mem hlt) x (List.mem_of_getElem? hx)
          obtain ⟨r, rfl⟩ : ∃ r : Nat, x = (r : Int) := ⟨x.toNat, by omega⟩
          have hrn : r < cnt p := by omega
          obtain ⟨ho1', ho2', ho3'⟩ := own_spec hrn
          have hg14 := hgr.trans hgr4
          obtain ⟨b2, o2, rfl, -, -, hc⟩ := (hrefs.gr hgr4).at_ hml
          have cx := hc _ hx
          obtain ⟨g3, o3, cap3, cur3, he3, -, -, -, -, hc3⟩ := (ho1.gr hg14).at_ (by omega)
          simp only [Value.slice.injEq] at he3
          obtain ⟨rfl, -, rfl⟩ := he3
          have cr := hc3 r _ (intsV_get (owners_getD hrn))
          obtain ⟨b4, o4, A4, c4, he4, -, -, d0, -⟩ := (hp.gr (hg1.trans hg14)).at_ ho1'
          simp only [Option.some.injEq, Addr.mk.injEq, and_true] at he4
          obtain ⟨rfl, rfl⟩ := he4
          have hmi : (m : Int) < ((it p k).refs.length : Int) := by omega
          have hri : (r : Int) < (cnt p : Int) := by omega
          have hoi : ((own p r : Nat) : Int) < (p.length : Int) := by omega
          have Hnext := Lib.hid (fun (h : LoneR p k r) (r' : Nat) (hr' : (r' : Int) ∈ (it p k).refs.take (m + 1)) => (by
            rw [take_snoc hx] at hr'
            rcases List.mem_append.1 hr' with h1 | h1
            · exact hall r' h1
            · simp at h1
              obtain rfl : r' = r := by omega
              exact h : LoneR p k r'))
          have Hbad := Lib.hid (fun (h : ¬ LoneR p k r) => (fun hL => h (hL k hlt r (List.mem_of_getElem? hx)) : ¬ LoneP p))
          clear hc hc3 hall hx hx0 hx1
          by_cases e1 : own p r = k
          · have d1 : decide (((own p r : Nat) : Int) = (k : Int)) = true := by simp [e1]
            have d1' : ((((own p r : Nat) : Int) == (k : Int))) = true := by simp [e1]
            have E1 := Lib.hid e1
            have e1i : ((own p r : Nat) : Int) = (k : Int) := by omega
            clear e1
            go_wp2
            go_roundw
            case rel => exact ⟨m + 1, by omega, by go_num, Hnext.out (fun h => absurd E1.out h), hgr4⟩
            case measure => simp [intOf]; omega
          · have d1 : decide (((own p r : Nat) : Int) = (k : Int)) = false := by simp; omega
            have d1' : ((((own p r : Nat) : Int) == (k : Int))) = false := by simp; omega
            have E1 := Lib.hid e1
            have e1i : ¬ ((own p r : Nat) : Int) = (k : Int) := by omega
            clear e1
            by_cases e2 : (it p (own p r)).kind = 1
            · have d2 : ((it p (own p r)).kind == 1) = true := by simp [e2]
              have E2 := Lib.hid e2
              clear e2
              by_cases e3 : r + 1 < cnt p
              · have d3 : decide (((r : Int) + 1) < (cnt p : Int)) = true := by simp; omega
                have e3i : (r : Int) + 1 < (cnt p : Int) := by omega
                obtain ⟨g5, o5, cap5, cur5, he5, -, -, -, -, hc5⟩ := (ho1.gr hg14).at_ (by omega)
                simp only [Value.slice.injEq, Option.some.injEq, Addr.mk.injEq, and_true, true_and] at he5
                obtain ⟨⟨rfl, rfl⟩, rfl⟩ := he5
                have cr1 := hc5 (r + 1) _ (intsV_get (owners_getD e3))
                have E3 := Lib.hid e3
                clear hc5 e3
                by_cases e4 : own p (r + 1) = own p r
                · have d4 : ((((own p (r + 1) : Nat) : Int) == ((own p r : Nat) : Int))) = true := by simp [e4]
                  have d4' : decide (((own p (r + 1) : Nat) : Int) = ((own p r : Nat) : Int)) = true := by simp [e4]
                  have E4 := Lib.hid e4
                  clear e4
                  go_wp2
                  go_ret
                  exact ⟨false, rfl, ⟨fun h => (by cases h), fun h => absurd h (Hbad.out fun hL => hL E1.out E2.out E3.out E4.out)⟩, hg1.trans hg14⟩
                · have d4 : ((((own p (r + 1) : Nat) : Int) == ((own p r : Nat) : Int))) = false := by simp; omega
                  have d4' : decide (((own p (r + 1) : Nat) : Int) = ((own p r : Nat) : Int)) = false := by simp; omega
                  have E4 := Lib.hid e4
                  clear e4
                  go_wp2
                  go_roundw
                  case rel => exact ⟨m + 1, by omega, by go_num, Hnext.out (fun _ _ _ => E4.out), hgr4⟩
                  case measure => simp [intOf]; omega
              · have d3 : decide (((r : Int) + 1) < (cnt p : Int)) = false := by simp; omega
                have e3i : ¬ (r : Int) + 1 < (cnt p : Int) := by omega
                have E3 := Lib.hid e3
                clear e3
                go_wp2
                go_roundw
                case rel => exact ⟨m + 1, by omega, by go_num, Hnext.out (fun _ _ h => absurd h E3.out), hgr4⟩
                case measure => simp [intOf]; omega
            · have d2 : ((it p (own p r)).kind == 1) = false := by simp [e2]
              have E2 := Lib.hid e2
              clear e2
              go_wp2
              go_roundw
              case rel => exact ⟨m + 1, by omega, by go_num, Hnext.out (fun _ h => absurd h E2.out), hgr4⟩
              case measure => simp [intOf]; omega
        · have hm0 : m = (it p k).refs.length := by omega
          subst hm0
          rw [List.take_length] at hall
          go_wp2
          go_roundw
          case rel =>
            refine ⟨k + 1, by omega, by go_num, ?_, hgr.trans hgr4⟩
            intro j hj
            by_cases e : j = k
            · subst e; exact hall
            · exact Hall.out j (by omega)
          case measure => simp [intOf]; omega
    · have hk0 : k = p.length := by omega
      subst hk0
      go_wp2
      go_ret
      exact ⟨true, rfl, ⟨fun _ k hk r hr => hall k hk r hr, fun _ => rfl⟩, hg1.trans hgr⟩
end Go.Proofs.YtelfaljidgfphaaGreat
