/-
  The walk of FnLast.
-/
import Derived.Test.YtelfaljidgfphaaGreatN6
import Derived.Test.YtelfaljidgfphaaGreatM2
import Derived.Deep.RegionHeld3
namespace Go.Proofs.YtelfaljidgfphaaGreat
open Go.RowKit

/-- A stronger condition serves. -/
theorem wpAnyH_more {P : Program} {md : Region.Mode} {ops : Array Oper} {Q : Exit → Act → World → Prop} {S S' : World → Prop} (h : ∀ w, S' w → S w) : ∀ (fuel : Nat) (listed : Array Bool) (a : Act) (w : World), wpAnyH P md ops Q S' fuel listed a w → wpAnyH P md ops Q S fuel listed a w
  | 0, _, _, _, h0 => h0
  | fuel + 1, _, _, _, h0 => ⟨h0.1, fun i hi => wpOp_mono (fun a' w' h' => ⟨h w' h'.1, wpAnyH_more h fuel _ a' w' h'.2⟩) (h0.2 i hi)⟩

/-- An operation that only reads is taken first, its value told. -/
theorem take1 {P : Program} {md : Region.Mode} {ops : Array Oper} {Q : Exit → Act → World → Prop} {S : World → Prop} (i : Nat) {oi : Oper} (v : Value) {fuel : Nat} {listed : Array Bool} {a : Act} {w : World} (hi : ops[i]? = some oi)
    (hs : Region.noSelect ops = true) (hf : Region.free md ops listed i = true) (hr : (Region.ready md ops listed).contains i = true)
    (hQ : ∀ c a w, Q (.panic c) (a.put oi.dst v) w → Q (.panic c) a w) (hw : Region.wanted oi (yielded ops a.tmps) = true) (hy : ∀ w, S w → (execOp a.eval oi).run P w = .ok (.value v) w) (hS : S w)
    (h : wpAnyH P md ops Q S fuel (listed.setIfInBounds i true) (a.put oi.dst v) w) : wpAnyH P md ops Q S (fuel + 1) listed a w :=
  wpAnyH_take hi hs hf hr hQ (Or.inl ⟨hw, hy⟩) hS h

def LastRel (w : World) (b : List (List Nat)) (n : Nat) (v i : Value) (wr : World) : Prop :=
  ∃ k : Nat, k ≤ b.length ∧ i = .int .i64 (k : Int) ∧ OwnLists wr w.heap.size v (lists ((b.take k).filter fun g => g.headD 0 != n)) ∧ Gr w wr

set_option maxHeartbeats 4000000 in
set_option maxRecDepth 100000 in
theorem fnLast_walk (w : World) (ok : Nat → Prop) (A : Option Addr) (c : Nat) (p : List It) (kind many : Int) (A' : Option Addr) (c' : Nat) (refs : List Int) (hp : Its w ok (.slice A p.length c) p) (hx : Ints w ok (.slice A' refs.length c') refs) (hw : wt p + refs.length + 1 ≤ 1048576) (hwr : refs.length ≤ 1048576) :
    Calls Tryz.prog 7 #[.slice A p.length c, .int .i64 kind, .int .i64 many, .slice A' refs.length c'] w (PTrue' w) := by
  have hpl := length_le_wt p
  have hwk := works_any
  have hrl : ¬ (2147483647 < (refs.length : Int)) := by omega
  obtain ⟨x, rfl, rfl, rfl⟩ : ∃ x : It, x.kind = kind ∧ x.many = many ∧ x.refs = refs := ⟨⟨kind, many, refs⟩, rfl, rfl, rfl⟩
  have hwq : wt (p ++ [x]) ≤ 1048576 := by rw [wt_snoc]; omega
  have hql : (p ++ [x]).length = p.length + 1 := by simp
  go_enter Tryz.func7, Tryz.ntmps7
  go_wp2_with (go_at_call 16; refine (zz1_any w ok A c p hp (by omega)).mono ?_; rintro e w1 ⟨b1, rfl, hb1, hg1⟩; clear hb1; cases b1)
  · go_wp2
    go_ret
    exact ⟨rfl, hg1⟩
  · go_wp2_with (first
      | (go_at_call 18; refine HV.out.mono ?_; clear HV; rintro e w5 ⟨b5, rfl, hb5, hg5⟩; have Hb5 := Lib.hid hb5; clear hb5; cases b5)
      | (at_builtin; refine wpList_appended rfl _ _ _ _ rfl rfl rfl Hr4 ?_; have HV := Lib.hid (valid_any w4 (fun _ => True) A2 c2 p (hp2.gr hg4) (by omega)))
      | (at_builtin; refine wpList_appended rfl _ _ _ _ rfl rfl rfl Hr3 ?_; obtain ⟨g, o, c4, w4, Hr4, ho4, hg4⟩ := H4.out; clear Hr3)
      | (go_at_call 17; refine (read_any w1 ok A c p (hp.gr hg1) (by omega)).mono ?_; rintro e w2 ⟨v2, rfl, hp2, hg2⟩; replace hp2 := hp2.its; obtain ⟨A2, c2, rfl⟩ := hp2.val; obtain ⟨A3, c3, w3, Hr3, hg3, H4⟩ := app_copy hp2 (by omega) x (hx.gr (hg1.trans hg2))))
    · go_wp2
      go_ret
      exact ⟨rfl, ((hg1.trans hg2).trans hg4).trans hg5⟩
    · have hO := ok_of_valid (Hb5.out.1 (by trivial)) (by omega)
      have hq5 := (ho4.gr hg5).its
      have HVq : Hid _ := Lib.hid (valid_any w5 (fun _ => True) (some ⟨g, o, none⟩) c4 (p ++ [x]) (by rw [hql]; exact hq5) (by omega))
      rw [hql] at HVq
      have hp5 := hp2.gr (hg4.trans hg5)
      have hg1245 := ((hg1.trans hg2).trans hg4).trans hg5
      go_wp2_with (go_at_call 18; refine HVq.out.mono ?_; clear HVq; rintro e w6 ⟨b6, rfl, hb6, hg6⟩; have Hb6 := Lib.hid hb6; clear hb6; cases b6)
      · go_wp2
        go_ret
        exact ⟨rfl, hg1245.trans hg6⟩
      · have hOq := ok_of_valid (Hb6.out.1 (by trivial)) (by omega)
        have HP : Hid _ := Lib.hid (order_law_any w6 (fun _ => True) A2 c2 p (hp5.gr hg6) hO)
        go_wp2_with (first
          | (go_at_call 20; refine HQ.out.mono ?_; clear HQ; rintro e w8 ⟨v8, lb, rfl, hemb, hl8, hg8⟩; obtain ⟨A8, c8, hv8⟩ := hl8.val; rw [lists_length] at hv8; subst hv8)
          | (go_at_call 20; refine HP.out.mono ?_; clear HP; rintro e w7 ⟨v7, la, rfl, hema, hl7, hg7⟩; obtain ⟨A7, c7, rfl⟩ := hl7.val; have HQ : Hid _ := Lib.hid (order_law_any w7 (fun _ => True) (some ⟨g, o, none⟩) c4 (p ++ [x]) (by rw [hql]; exact hq5.gr (hg6.trans hg7)) hOq); rw [hql] at HQ))
        obtain ⟨hfil, hne⟩ := app_last hO.refs hOq.kinds hema hemb
        have Hfil := Lib.hid hfil
        have Hne := Lib.hid hne
        have hszb := Em.size hOq.kinds hemb
        have hcq := cnt_le hOq.kinds
        have hlen := hO.len
        have hlbl : lb.length ≤ 4294967296 := by omega
        have Hszb := Lib.hid hszb.2
        have hq8 := hq5.gr ((hg6.trans hg7).trans hg8)
        have hcapq : p.length + 1 ≤ c4 := hq8.cap
        clear hfil hne hszb hcq
        go_loopw [15, 56] (LastRel w8 lb (cnt p)) (fun _ i _ => lb.length - (intOf i).toNat)
        case atStart => exact ⟨0, by omega, rfl, by simpa [lists] using OwnLists.nil w8 w8.heap.size, Gr.refl w8⟩
        case round =>
          obtain ⟨k, hkb, rfl, hown, hgr⟩ := hrel
          by_cases hlt : k < lb.length
          · obtain ⟨gl, hgl⟩ := get_lt hlt
            have hgne := Hne.out gl (List.mem_of_getElem? hgl)
            obtain ⟨r, gt, rfl⟩ : ∃ r gt, gl = r :: gt := by cases gl with | nil => exact absurd rfl hgne | cons r gt => exact ⟨r, gt, rfl⟩
            have hg100 := Hszb.out _ (List.mem_of_getElem? hgl)
            obtain ⟨b1, o1, rfl, -, -, hc1⟩ := hl8.at_ (k := k) (by rw [lists_length]; omega)
            obtain ⟨A1, c1, q0, hi1⟩ := hc1 (ints (r :: gt)) (by simp [lists, hgl])
            rw [ints_length] at q0
            replace q0 := hgr.cell q0
            have hi2 : Ints wr (fun b => u15.ownBlock ≠ some b) (.slice A1 (ints (r :: gt)).length c1) (ints (r :: gt)) := (hi1.mono (ok' := fun b => u15.ownBlock ≠ some b) (fun b hb _ e => by have := hown.blk b e; omega)).gr hgr
            have hi1' := hi1.gr hgr
            rw [ints_length] at hi1' hi2
            obtain ⟨b2, o2, rfl, -, -, hc2⟩ := hi1'.at_ (k := 0) (by rw [ints_length]; simp)
            have q1 := hc2 (r : Int) (by simp [ints])
            rw [Nat.add_zero] at q1
            have hn0 : 0 < (r :: gt).length := by simp
            obtain ⟨n, hn⟩ : ∃ n, n = (r :: gt).length := ⟨_, rfl⟩
            rw [← hn] at q0 hn0 hi2
            have Hn := Lib.hid hn
            have dl : ((n : Int) == 0) = false := by simp; omega
            have hli : (0 : Int) < (n : Int) := by omega
            have hki : (k : Int) < (lb.length : Int) := by omega
            have HObj : Hid _ := Lib.hid (Objects_any wr.drew (fun _ => True) (some ⟨g, o, none⟩) c4 (p ++ [x]) p.length (by rw [hql]; exact (hq8.gr hgr).gr (Gr.refl wr).drew) (by rw [hql]; exact hcapq) hOq.kinds hOq.len (by rw [hql]; omega))
            rw [hql] at HObj
            have Htk := Lib.hid (take_snoc hgl)
            have hxn := (n_pos hOq.kinds (it_mem (p := p ++ [x]) (k := p.length) (by rw [hql]; omega))).1
            have hni : (0 : Int) < ((it (p ++ [x]) p.length).n : Int) := by omega
            have hnN : 0 < (it (p ++ [x]) p.length).n := by omega
            have hobj : Hid ((ints (objs (p ++ [x]) p.length)).map intV = .int .i64 (cnt p : Int) :: ((List.range' (cnt p + 1) ((it (p ++ [x]) p.length).n - 1)).map fun (n : Nat) => intV (n : Int))) := by
              show _ = _
              obtain ⟨m, hm⟩ : ∃ m, (it (p ++ [x]) p.length).n = m + 1 := ⟨_, (Nat.sub_add_cancel hxn).symm⟩
              unfold objs
              rw [app_start_last, hm, List.range'_succ]
              simp [ints, intV]
            clear hc1 hc2 hgl hi1' hi1 hn
            by_cases hrc : r = cnt p
            · have hrn : (((r : Int)) != (cnt p : Int)) = false := by simp [hrc]
              have Hrc := Lib.hid hrc
              clear hrc
              go_wp2
              have q1d := Gr.cell (Gr.refl wr).drew q1
              refine wp_region_held_drew (S := fun w' => w'.cell? ⟨b2, o2, none⟩ = some (.int .i64 (r : Int))) (by kernel_rfl) q1d (fun hS1 => ?_)
              refine take1 0 (oi := { dst := some 60, op := Op.move (Operand.tmp 17), type := 29, pos := "laws.go:214", after := #[], guard := none }) (.slice (some ⟨b2, o2, none⟩) n c1) rfl (by kernel_rfl) (by kernel_rfl) (by kernel_rfl) (fun _ _ _ h => h) (by rfl) ?_ hS1 ?_
              · intro w hSw
                (try dsimp only at hSw)
                go_simp
              try simp only [Act.put, List.setIfInBounds_toArray, List.set_cons_zero, List.set_cons_succ]
              refine take1 1 (oi := { dst := some 61, op := Op.call { callee := Callee.builtin Builtin.len, args := #[Operand.tmp 60], argTypes := #[29] }, type := 3, pos := "laws.go:214", after := #[{ on := 0, ground := Ground.data }], guard := none }) (.int .i64 (n : Int)) rfl (by kernel_rfl) (by kernel_rfl) (by kernel_rfl) (fun _ _ _ h => h) (by rfl) ?_ hS1 ?_
              · intro w hSw
                (try dsimp only at hSw)
                go_simp
              try simp only [Act.put, List.setIfInBounds_toArray, List.set_cons_zero, List.set_cons_succ]
              refine take1 2 (oi := { dst := some 62, op := Op.binOp BinOp.eql 3 (Operand.tmp 61) (Operand.const (Value.int IntKind.i64 0)) 3, type := 4, pos := "laws.go:214", after := #[{ on := 1, ground := Ground.data }], guard := none }) (.bool false) rfl (by kernel_rfl) (by kernel_rfl) (by kernel_rfl) (fun _ _ _ h => h) (by rfl) ?_ hS1 ?_
              · intro w hSw
                (try dsimp only at hSw)
                go_simp
              try simp only [Act.put, List.setIfInBounds_toArray, List.set_cons_zero, List.set_cons_succ]
              refine take1 3 (oi := { dst := some 63, op := Op.move (Operand.tmp 62), type := 4, pos := "laws.go:214", after := #[{ on := 2, ground := Ground.data }], guard := none }) (.bool false) rfl (by kernel_rfl) (by kernel_rfl) (by kernel_rfl) (fun _ _ _ h => h) (by rfl) ?_ hS1 ?_
              · intro w hSw
                (try dsimp only at hSw)
                go_simp
              try simp only [Act.put, List.setIfInBounds_toArray, List.set_cons_zero, List.set_cons_succ]
              refine take1 4 (oi := { dst := some 64, op := Op.move (Operand.tmp 17), type := 29, pos := "laws.go:214", after := #[{ on := 3, ground := Ground.guard }], guard := some (3, false) }) (.slice (some ⟨b2, o2, none⟩) n c1) rfl (by kernel_rfl) (by kernel_rfl) (by kernel_rfl) (fun _ _ _ h => h) (by rfl) ?_ hS1 ?_
              · intro w hSw
                (try dsimp only at hSw)
                go_simp
              try simp only [Act.put, List.setIfInBounds_toArray, List.set_cons_zero, List.set_cons_succ]
              refine take1 5 (oi := { dst := some 65, op := Op.indexAddr 29 (Operand.tmp 64) (Operand.const (Value.int IntKind.i64 0)), type := 0, pos := "laws.go:214", after := #[{ on := 4, ground := Ground.data }, { on := 3, ground := Ground.guard }], guard := some (3, false) }) (.pointer (some ⟨b2, o2, none⟩)) rfl (by kernel_rfl) (by kernel_rfl) (by kernel_rfl) (fun _ _ _ h => h) (by rfl) ?_ hS1 ?_
              · intro w hSw
                (try dsimp only at hSw)
                go_simp
              try simp only [Act.put, List.setIfInBounds_toArray, List.set_cons_zero, List.set_cons_succ]
              refine take1 6 (oi := { dst := some 66, op := Op.load 3 (Operand.tmp 65), type := 3, pos := "laws.go:214", after := #[{ on := 5, ground := Ground.data }, { on := 3, ground := Ground.guard }], guard := some (3, false) }) (.int .i64 (r : Int)) rfl (by kernel_rfl) (by kernel_rfl) (by kernel_rfl) (fun _ _ _ h => h) (by rfl) ?_ hS1 ?_
              · intro w hSw
                (try dsimp only at hSw)
                go_simp
              try simp only [Act.put, List.setIfInBounds_toArray, List.set_cons_zero, List.set_cons_succ]
              refine take1 7 (oi := { dst := some 67, op := Op.move (Operand.tmp 10), type := 26, pos := "laws.go:214", after := #[{ on := 3, ground := Ground.guard }], guard := some (3, false) }) (.slice (some ⟨g, o, none⟩) (p.length + 1) c4) rfl (by kernel_rfl) (by kernel_rfl) (by kernel_rfl) (fun _ _ _ h => h) (by rfl) ?_ hS1 ?_
              · intro w hSw
                (try dsimp only at hSw)
                go_simp
              try simp only [Act.put, List.setIfInBounds_toArray, List.set_cons_zero, List.set_cons_succ]
              refine take1 8 (oi := { dst := some 68, op := Op.move (Operand.tmp 9), type := 26, pos := "laws.go:214", after := #[{ on := 3, ground := Ground.guard }], guard := some (3, false) }) (.slice A2 p.length c2) rfl (by kernel_rfl) (by kernel_rfl) (by kernel_rfl) (fun _ _ _ h => h) (by rfl) ?_ hS1 ?_
              · intro w hSw
                (try dsimp only at hSw)
                go_simp
              try simp only [Act.put, List.setIfInBounds_toArray, List.set_cons_zero, List.set_cons_succ]
              refine take1 9 (oi := { dst := some 69, op := Op.call { callee := Callee.builtin Builtin.len, args := #[Operand.tmp 68], argTypes := #[26] }, type := 3, pos := "laws.go:214", after := #[{ on := 8, ground := Ground.data }, { on := 3, ground := Ground.guard }], guard := some (3, false) }) (.int .i64 (p.length : Int)) rfl (by kernel_rfl) (by kernel_rfl) (by kernel_rfl) (fun _ _ _ h => h) (by rfl) ?_ hS1 ?_
              · intro w hSw
                (try dsimp only at hSw)
                go_simp
              try simp only [Act.put, List.setIfInBounds_toArray, List.set_cons_zero, List.set_cons_succ]
              refine wpAnyH_ready (rs := [10]) (by kernel_rfl) (by simp) ?_
              refine AllReadyH.cons (o := { dst := some 70, op := Op.call { callee := Callee.value (Operand.func 31), args := #[Operand.tmp 67, Operand.tmp 69], argTypes := #[26, 3] }, type := 29, pos := "laws.go:214", after := #[{ on := 7, ground := Ground.data }, { on := 9, ground := Ground.data }, { on := 3, ground := Ground.chain }, { on := 3, ground := Ground.guard }], guard := some (3, false) }) rfl (fun K hK => ?_) AllReadyH.nil
              go_simp
              refine HObj.out.mono ?_
              rintro e w9 ⟨v9, rfl, ho9, hg9⟩
              obtain ⟨g9, o9, cap9, cur9, rfl, -, -, -, -, hc9⟩ := ho9.at_ (by omega)
              have q9 := hc9 0 _ (by rw [hobj.out]; rfl)
              rw [Nat.add_zero] at q9
              have q1' := hg9.cell q1d
              clear hc9
              (try go_wp2_with fail)
              refine hK.out _ _ q1' (fun _ => ?_)
              clear hK K
              refine wpAnyH_more (S' := fun w' => w'.cell? ⟨b2, o2, none⟩ = some (.int .i64 (r : Int)) ∧ w'.cell? ⟨g9, o9, none⟩ = some (.int .i64 (cnt p : Int))) (fun _ h => h.1) _ _ _ _ ?_
              try simp only [Act.put, List.setIfInBounds_toArray, List.set_cons_zero, List.set_cons_succ]
              refine take1 11 (oi := { dst := some 71, op := Op.indexAddr 29 (Operand.tmp 70) (Operand.const (Value.int IntKind.i64 0)), type := 0, pos := "laws.go:214", after := #[{ on := 10, ground := Ground.data }, { on := 3, ground := Ground.guard }], guard := some (3, false) }) (.pointer (some ⟨g9, o9, none⟩)) rfl (by kernel_rfl) (by kernel_rfl) (by kernel_rfl) (fun _ _ _ h => h) (by rfl) ?_ ⟨q1', q9⟩ ?_
              · intro w hSw
                (try dsimp only at hSw)
                go_simp
              try simp only [Act.put, List.setIfInBounds_toArray, List.set_cons_zero, List.set_cons_succ]
              refine take1 12 (oi := { dst := some 72, op := Op.load 3 (Operand.tmp 71), type := 3, pos := "laws.go:214", after := #[{ on := 11, ground := Ground.data }, { on := 3, ground := Ground.guard }], guard := some (3, false) }) (.int .i64 (cnt p : Int)) rfl (by kernel_rfl) (by kernel_rfl) (by kernel_rfl) (fun _ _ _ h => h) (by rfl) ?_ ⟨q1', q9⟩ ?_
              · intro w hSw
                (try dsimp only at hSw)
                go_simp
              try simp only [Act.put, List.setIfInBounds_toArray, List.set_cons_zero, List.set_cons_succ]
              refine take1 13 (oi := { dst := some 73, op := Op.binOp BinOp.neq 3 (Operand.tmp 66) (Operand.tmp 72) 3, type := 4, pos := "laws.go:214", after := #[{ on := 6, ground := Ground.data }, { on := 12, ground := Ground.data }, { on := 3, ground := Ground.guard }], guard := some (3, false) }) (.bool false) rfl (by kernel_rfl) (by kernel_rfl) (by kernel_rfl) (fun _ _ _ h => h) (by rfl) ?_ ⟨q1', q9⟩ ?_
              · intro w hSw
                (try dsimp only at hSw)
                go_simp
              try simp only [Act.put, List.setIfInBounds_toArray, List.set_cons_zero, List.set_cons_succ]
              refine take1 14 (oi := { dst := some 74, op := Op.pick (Operand.tmp 63) (Operand.const (Value.bool true)) (Operand.tmp 73), type := 4, pos := "laws.go:214", after := #[{ on := 3, ground := Ground.data }, { on := 13, ground := Ground.data }], guard := none }) (.bool false) rfl (by kernel_rfl) (by kernel_rfl) (by kernel_rfl) (fun _ _ _ h => h) (by rfl) ?_ ⟨q1', q9⟩ ?_
              · intro w hSw
                (try dsimp only at hSw)
                go_simp
              try simp only [Act.put, List.setIfInBounds_toArray, List.set_cons_zero, List.set_cons_succ]
              refine wpAnyH_done (by kernel_rfl) ?_ _
              all_goals (
                have hg19 : Gr wr w9 := (Gr.refl wr).drew.trans hg9
                go_wp2
                go_roundw
                case rel =>
                  refine ⟨k + 1, by omega, by go_num, ?_, hgr.trans hg19⟩
                  rw [Htk.out, List.filter_append, List.filter_cons]
                  have e : ((r :: gt).headD 0 != cnt p) = false := by simp [Hrc.out]
                  rw [e]
                  simpa using hown.gr hg19
                case measure => simp [intOf]; omega)
            · have hrn : (((r : Int)) != (cnt p : Int)) = true := by simp; omega
              have Hrc := Lib.hid hrc
              clear hrc
              go_wp2
              have q1d := Gr.cell (Gr.refl wr).drew q1
              refine wp_region_held_drew (S := fun w' => w'.cell? ⟨b2, o2, none⟩ = some (.int .i64 (r : Int))) (by kernel_rfl) q1d (fun hS1 => ?_)
              refine take1 0 (oi := { dst := some 60, op := Op.move (Operand.tmp 17), type := 29, pos := "laws.go:214", after := #[], guard := none }) (.slice (some ⟨b2, o2, none⟩) n c1) rfl (by kernel_rfl) (by kernel_rfl) (by kernel_rfl) (fun _ _ _ h => h) (by rfl) ?_ hS1 ?_
              · intro w hSw
                (try dsimp only at hSw)
                go_simp
              try simp only [Act.put, List.setIfInBounds_toArray, List.set_cons_zero, List.set_cons_succ]
              refine take1 1 (oi := { dst := some 61, op := Op.call { callee := Callee.builtin Builtin.len, args := #[Operand.tmp 60], argTypes := #[29] }, type := 3, pos := "laws.go:214", after := #[{ on := 0, ground := Ground.data }], guard := none }) (.int .i64 (n : Int)) rfl (by kernel_rfl) (by kernel_rfl) (by kernel_rfl) (fun _ _ _ h => h) (by rfl) ?_ hS1 ?_
              · intro w hSw
                (try dsimp only at hSw)
                go_simp
              try simp only [Act.put, List.setIfInBounds_toArray, List.set_cons_zero, List.set_cons_succ]
              refine take1 2 (oi := { dst := some 62, op := Op.binOp BinOp.eql 3 (Operand.tmp 61) (Operand.const (Value.int IntKind.i64 0)) 3, type := 4, pos := "laws.go:214", after := #[{ on := 1, ground := Ground.data }], guard := none }) (.bool false) rfl (by kernel_rfl) (by kernel_rfl) (by kernel_rfl) (fun _ _ _ h => h) (by rfl) ?_ hS1 ?_
              · intro w hSw
                (try dsimp only at hSw)
                go_simp
              try simp only [Act.put, List.setIfInBounds_toArray, List.set_cons_zero, List.set_cons_succ]
              refine take1 3 (oi := { dst := some 63, op := Op.move (Operand.tmp 62), type := 4, pos := "laws.go:214", after := #[{ on := 2, ground := Ground.data }], guard := none }) (.bool false) rfl (by kernel_rfl) (by kernel_rfl) (by kernel_rfl) (fun _ _ _ h => h) (by rfl) ?_ hS1 ?_
              · intro w hSw
                (try dsimp only at hSw)
                go_simp
              try simp only [Act.put, List.setIfInBounds_toArray, List.set_cons_zero, List.set_cons_succ]
              refine take1 4 (oi := { dst := some 64, op := Op.move (Operand.tmp 17), type := 29, pos := "laws.go:214", after := #[{ on := 3, ground := Ground.guard }], guard := some (3, false) }) (.slice (some ⟨b2, o2, none⟩) n c1) rfl (by kernel_rfl) (by kernel_rfl) (by kernel_rfl) (fun _ _ _ h => h) (by rfl) ?_ hS1 ?_
              · intro w hSw
                (try dsimp only at hSw)
                go_simp
              try simp only [Act.put, List.setIfInBounds_toArray, List.set_cons_zero, List.set_cons_succ]
              refine take1 5 (oi := { dst := some 65, op := Op.indexAddr 29 (Operand.tmp 64) (Operand.const (Value.int IntKind.i64 0)), type := 0, pos := "laws.go:214", after := #[{ on := 4, ground := Ground.data }, { on := 3, ground := Ground.guard }], guard := some (3, false) }) (.pointer (some ⟨b2, o2, none⟩)) rfl (by kernel_rfl) (by kernel_rfl) (by kernel_rfl) (fun _ _ _ h => h) (by rfl) ?_ hS1 ?_
              · intro w hSw
                (try dsimp only at hSw)
                go_simp
              try simp only [Act.put, List.setIfInBounds_toArray, List.set_cons_zero, List.set_cons_succ]
              refine take1 6 (oi := { dst := some 66, op := Op.load 3 (Operand.tmp 65), type := 3, pos := "laws.go:214", after := #[{ on := 5, ground := Ground.data }, { on := 3, ground := Ground.guard }], guard := some (3, false) }) (.int .i64 (r : Int)) rfl (by kernel_rfl) (by kernel_rfl) (by kernel_rfl) (fun _ _ _ h => h) (by rfl) ?_ hS1 ?_
              · intro w hSw
                (try dsimp only at hSw)
                go_simp
              try simp only [Act.put, List.setIfInBounds_toArray, List.set_cons_zero, List.set_cons_succ]
              refine take1 7 (oi := { dst := some 67, op := Op.move (Operand.tmp 10), type := 26, pos := "laws.go:214", after := #[{ on := 3, ground := Ground.guard }], guard := some (3, false) }) (.slice (some ⟨g, o, none⟩) (p.length + 1) c4) rfl (by kernel_rfl) (by kernel_rfl) (by kernel_rfl) (fun _ _ _ h => h) (by rfl) ?_ hS1 ?_
              · intro w hSw
                (try dsimp only at hSw)
                go_simp
              try simp only [Act.put, List.setIfInBounds_toArray, List.set_cons_zero, List.set_cons_succ]
              refine take1 8 (oi := { dst := some 68, op := Op.move (Operand.tmp 9), type := 26, pos := "laws.go:214", after := #[{ on := 3, ground := Ground.guard }], guard := some (3, false) }) (.slice A2 p.length c2) rfl (by kernel_rfl) (by kernel_rfl) (by kernel_rfl) (fun _ _ _ h => h) (by rfl) ?_ hS1 ?_
              · intro w hSw
                (try dsimp only at hSw)
                go_simp
              try simp only [Act.put, List.setIfInBounds_toArray, List.set_cons_zero, List.set_cons_succ]
              refine take1 9 (oi := { dst := some 69, op := Op.call { callee := Callee.builtin Builtin.len, args := #[Operand.tmp 68], argTypes := #[26] }, type := 3, pos := "laws.go:214", after := #[{ on := 8, ground := Ground.data }, { on := 3, ground := Ground.guard }], guard := some (3, false) }) (.int .i64 (p.length : Int)) rfl (by kernel_rfl) (by kernel_rfl) (by kernel_rfl) (fun _ _ _ h => h) (by rfl) ?_ hS1 ?_
              · intro w hSw
                (try dsimp only at hSw)
                go_simp
              try simp only [Act.put, List.setIfInBounds_toArray, List.set_cons_zero, List.set_cons_succ]
              refine wpAnyH_ready (rs := [10]) (by kernel_rfl) (by simp) ?_
              refine AllReadyH.cons (o := { dst := some 70, op := Op.call { callee := Callee.value (Operand.func 31), args := #[Operand.tmp 67, Operand.tmp 69], argTypes := #[26, 3] }, type := 29, pos := "laws.go:214", after := #[{ on := 7, ground := Ground.data }, { on := 9, ground := Ground.data }, { on := 3, ground := Ground.chain }, { on := 3, ground := Ground.guard }], guard := some (3, false) }) rfl (fun K hK => ?_) AllReadyH.nil
              go_simp
              refine HObj.out.mono ?_
              rintro e w9 ⟨v9, rfl, ho9, hg9⟩
              obtain ⟨g9, o9, cap9, cur9, rfl, -, -, -, -, hc9⟩ := ho9.at_ (by omega)
              have q9 := hc9 0 _ (by rw [hobj.out]; rfl)
              rw [Nat.add_zero] at q9
              have q1' := hg9.cell q1d
              clear hc9
              (try go_wp2_with fail)
              refine hK.out _ _ q1' (fun _ => ?_)
              clear hK K
              refine wpAnyH_more (S' := fun w' => w'.cell? ⟨b2, o2, none⟩ = some (.int .i64 (r : Int)) ∧ w'.cell? ⟨g9, o9, none⟩ = some (.int .i64 (cnt p : Int))) (fun _ h => h.1) _ _ _ _ ?_
              try simp only [Act.put, List.setIfInBounds_toArray, List.set_cons_zero, List.set_cons_succ]
              refine take1 11 (oi := { dst := some 71, op := Op.indexAddr 29 (Operand.tmp 70) (Operand.const (Value.int IntKind.i64 0)), type := 0, pos := "laws.go:214", after := #[{ on := 10, ground := Ground.data }, { on := 3, ground := Ground.guard }], guard := some (3, false) }) (.pointer (some ⟨g9, o9, none⟩)) rfl (by kernel_rfl) (by kernel_rfl) (by kernel_rfl) (fun _ _ _ h => h) (by rfl) ?_ ⟨q1', q9⟩ ?_
              · intro w hSw
                (try dsimp only at hSw)
                go_simp
              try simp only [Act.put, List.setIfInBounds_toArray, List.set_cons_zero, List.set_cons_succ]
              refine take1 12 (oi := { dst := some 72, op := Op.load 3 (Operand.tmp 71), type := 3, pos := "laws.go:214", after := #[{ on := 11, ground := Ground.data }, { on := 3, ground := Ground.guard }], guard := some (3, false) }) (.int .i64 (cnt p : Int)) rfl (by kernel_rfl) (by kernel_rfl) (by kernel_rfl) (fun _ _ _ h => h) (by rfl) ?_ ⟨q1', q9⟩ ?_
              · intro w hSw
                (try dsimp only at hSw)
                go_simp
              try simp only [Act.put, List.setIfInBounds_toArray, List.set_cons_zero, List.set_cons_succ]
              refine take1 13 (oi := { dst := some 73, op := Op.binOp BinOp.neq 3 (Operand.tmp 66) (Operand.tmp 72) 3, type := 4, pos := "laws.go:214", after := #[{ on := 6, ground := Ground.data }, { on := 12, ground := Ground.data }, { on := 3, ground := Ground.guard }], guard := some (3, false) }) (.bool true) rfl (by kernel_rfl) (by kernel_rfl) (by kernel_rfl) (fun _ _ _ h => h) (by rfl) ?_ ⟨q1', q9⟩ ?_
              · intro w hSw
                (try dsimp only at hSw)
                go_simp
              try simp only [Act.put, List.setIfInBounds_toArray, List.set_cons_zero, List.set_cons_succ]
              refine take1 14 (oi := { dst := some 74, op := Op.pick (Operand.tmp 63) (Operand.const (Value.bool true)) (Operand.tmp 73), type := 4, pos := "laws.go:214", after := #[{ on := 3, ground := Ground.data }, { on := 13, ground := Ground.data }], guard := none }) (.bool true) rfl (by kernel_rfl) (by kernel_rfl) (by kernel_rfl) (fun _ _ _ h => h) (by rfl) ?_ ⟨q1', q9⟩ ?_
              · intro w hSw
                (try dsimp only at hSw)
                go_simp
              try simp only [Act.put, List.setIfInBounds_toArray, List.set_cons_zero, List.set_cons_succ]
              refine wpAnyH_done (by kernel_rfl) ?_ _
              all_goals (
                have hg19 : Gr wr w9 := (Gr.refl wr).drew.trans hg9
                have hlen9 : (List.filter (fun g => g.headD 0 != cnt p) (List.take k lb)).length ≤ k := Nat.le_trans (List.length_filter_le _ _) (by rw [List.length_take]; omega)
                obtain ⟨v6, w6, Hr6, hown6, hf6, -⟩ := OwnLists.push (t := 32) (ty := 32) (hown.gr hg19) (x := ints (r :: gt)) (u := .slice (some ⟨b2, o2, none⟩) n c1) (hi2.gr hg19) Tryz.underlying32 (hgr.trans hg19).size (by rw [lists_length]; omega)
                have Hown6 := Lib.hid hown6
                clear hown6
                go_wp2_with (at_builtin; refine wpList_appended rfl _ _ _ _ rfl rfl rfl Hr6 ?_)
                go_roundw
                case rel =>
                  refine ⟨k + 1, by omega, by go_num, ?_, (hgr.trans hg19).own hf6 (Nat.le_refl _)⟩
                  rw [Htk.out, List.filter_append, List.filter_cons]
                  have e : ((r :: gt).headD 0 != cnt p) = true := by have := Hrc.out; simp [this]
                  rw [e, if_pos rfl, List.filter_nil, lists_snoc]
                  exact Hown6.out
                case measure => simp [intOf]; omega)
          · have hk0 : k = lb.length := by omega
            subst hk0
            rw [List.take_length, Hfil.out] at hown
            have hl9 := hown.lists
            obtain ⟨A9, c9, rfl⟩ := hl9.val
            have hsza := Em.size hO.kinds hema
            have hcnp := cnt_le hO.kinds
            have hcmp := lists_any wr (fun _ => True) (fun _ => True) (A7) (A9) c7 c9 (lists la) (lists la) ((hl7.gr hg8).gr hgr) hl9 (by rw [lists_length]; omega) (fun x hx => by obtain ⟨y, hy, rfl⟩ := List.mem_map.1 hx; have := hsza.2 y hy; rw [ints_length]; omega)
            rw [decide_eq_true rfl] at hcmp
            clear hsza hcnp
            go_wp2_with (first
              | (go_at_call 24; refine (hwk _).mono ?_; rintro e w11 ⟨rfl, hg11⟩)
              | (go_at_call 21; refine hcmp.mono ?_; rintro e w10 ⟨rfl, hq10⟩))
            go_ret
            exact ⟨rfl, ((((hg1245.trans hg6).trans hg7).trans hg8).trans hgr).trans (hq10.gr.trans hg11)⟩
end Go.Proofs.YtelfaljidgfphaaGreat
