/-
  What the walk of 'initOrder' is told: the nil variable is no key; the list of initializers as a state.
-/
import Derived.Test.YtelfaljidgfphaaGreatG3
import Derived.Test.YtelfaljidgfphaaGreatH9
namespace Go.Proofs.YtelfaljidgfphaaGreat
open Go.RowKit

def nilVar : Value := .iface 102 (.pointer none)
def encN (p : List It) (g : Gh) (i : Nat) : Value := if i < cnt p then g.enc p i else nilVar

theorem equal_nn {P : Program} {w : World} {t te : Nat} (hp : P.underlying t = some (.pointer te)) (d : Nat) : (Op.equalIn (d + 1) t (.pointer none) (.pointer none)).run P w = .ok true w := by
  simp [Op.equalIn, run_underlying hp, sizeOf, typeInfo]
theorem equal_pn {P : Program} {w : World} {t te : Nat} (hp : P.underlying t = some (.pointer te)) (a : Addr) (d : Nat) : (Op.equalIn (d + 1) t (.pointer (some a)) (.pointer none)).run P w = .ok false w ∧ (Op.equalIn (d + 1) t (.pointer none) (.pointer (some a))).run P w = .ok false w := by
  constructor <;> simp [Op.equalIn, run_underlying hp, sizeOf, typeInfo]

theorem keyOk_nil {p : List It} {g : Gh} {w : World} (K : KeyOk Tryz.prog w 108 (g.enc p) (cnt p)) : KeyOk Tryz.prog w 108 (encN p g) (cnt p + 1) where
  inj r s hr hs h := by
    unfold encN at h
    split at h <;> split at h
    · exact K.inj r s (by assumption) (by assumption) h
    · unfold Gh.enc ifc ptr nilVar at h; injection h with h1 h2; injection h2 with h3; cases h3
    · unfold Gh.enc ifc ptr nilVar at h; injection h with h1 h2; injection h2 with h3; cases h3
    · omega
  check em r hr := by
    unfold encN
    split
    · exact K.check em r (by assumption)
    · obtain ⟨te, i, j, hp, hinfo, hcomp, hte, hsz⟩ := ptr102
      have h1 : (Instr.checkKey em 9999 102 (.pointer none)).run Tryz.prog w = .ok () w := by
        rw [Instr.checkKey]
        simp [run_underlying hp]
      rw [Instr.checkKey]
      simp [run_underlying Tryz.underlying108, nilVar, typeInfo, hinfo, hcomp, h1]
  eq r s hr hs := by
    obtain ⟨te, i, j, hp, hinfo, hcomp, hte, hsz⟩ := ptr102
    unfold encN
    split <;> split
    · exact K.eq r s (by assumption) (by assumption)
    · have hne : ¬ r = s := by omega
      show (Op.equalIn (9998 + 2) 108 _ _).run Tryz.prog w = _
      rw [Op.equalIn]
      by_cases ht : tyI p r = 102
      · simp [run_underlying Tryz.underlying108, Gh.enc, ifc, ptr, nilVar, ht, typeInfo, hinfo, hcomp, (equal_pn (w := w) hp ⟨g.ob r, 0, none⟩ 9998).1, hne]
      · simp [run_underlying Tryz.underlying108, Gh.enc, ifc, ptr, nilVar, ht, hne]
    · have hne : ¬ r = s := by omega
      show (Op.equalIn (9998 + 2) 108 _ _).run Tryz.prog w = _
      rw [Op.equalIn]
      by_cases ht : 102 = tyI p s
      · simp [run_underlying Tryz.underlying108, Gh.enc, ifc, ptr, nilVar, ← ht, typeInfo, hinfo, hcomp, (equal_pn (w := w) hp ⟨g.ob s, 0, none⟩ 9998).2, hne]
      · simp [run_underlying Tryz.underlying108, Gh.enc, ifc, ptr, nilVar, ht, hne]
    · have he : r = s := by omega
      subst he
      show (Op.equalIn (9998 + 2) 108 _ _).run Tryz.prog w = _
      rw [Op.equalIn]
      simp [run_underlying Tryz.underlying108, nilVar, typeInfo, hinfo, hcomp, equal_nn (w := w) hp 9998]
  und := ⟨_, Tryz.underlying108, .inl fun r s _ _ => by unfold encN; split <;> split <;> rfl⟩
  stays r hr := by
    unfold encN
    split
    · exact K.stays r (by assumption)
    · have h : Instr.sameBits 10000 nilVar nilVar = true := by
        unfold nilVar
        rw [Instr.sameBits]
        simp [Instr.sameBits]
      simp [Instr.keyThatStays, h]

set_option maxRecDepth 100000 in
/-- 'objMap[v]' where v is nil -/
theorem Built.lookNil {B : Nat} {p : List It} {L om : Nat} {g : Gh} {ks : Nat → List Nat} {w : World} (h : Built B p L om g ks w) : (Instr.lookup 78 (.map (some om)) (.iface 102 (.pointer none)) false).run Tryz.prog w = .ok (.pointer none) w := by
  have h1 := h.omap.congr (enc' := encN p g) (n' := cnt p + 1) (fun k hk => by unfold encN; rw [if_pos (by simpa using hk)]) (fun _ _ => rfl) (fun k hk => by simp at hk; omega)
  have e : encN p g (cnt p) = .iface 102 (.pointer none) := by unfold encN; rw [if_neg (by omega)]; rfl
  have h2 := h1.look (keyOk_nil h.keyOk) Tryz.underlying78 zero110 (k := cnt p) (by omega)
  have hn : ¬ cnt p ∈ List.range (cnt p) := by simp
  rw [if_neg hn, e] at h2
  exact h2

/-- A row of another kind is turned. -/
theorem Built.frCell {B : Nat} {p : List It} {L om : Nat} {g : Gh} {ks : Nat → List Nat} {w w' : World} (h : Built B p L om g ks w) {ib : Nat} {cur : Array Value} {t : Nat} {f : Nat × Nat} (hi : w.heap[ib]? = some (.cells cur t f)) (ht : t = 97) (hf : Fr (fun b => b = ib) w w') : Built B p L om g ks w' where
  obj i hi' := hf.heap (h.obj i hi') (ne_cells (h.obj i hi') hi (by rcases tyE_cases p i with e | e | e <;> rw [e, ht] <;> decide))
  objGe := h.objGe
  objInj := h.objInj
  row := by
    obtain ⟨ls, h3, h4⟩ := h.row
    exact ⟨ls, hf.heap h3 (ne_cells h3 hi (by rw [ht]; decide)), h4⟩
  dcl k hk := hf.heap (h.dcl k hk) (ne_cells (h.dcl k hk) hi (by rw [ht]; decide))
  dclGe := h.dclGe
  dclInj := h.dclInj
  dep k hk := (h.dep k hk).fr hf (fun e => (h.dep k hk).ne hi e)
  depGe := h.depGe
  depInj := h.depInj
  lone := h.lone
  lhs k hk h3 := (h.lhs k hk h3).fr hf (fun b hb e => by
    obtain ⟨cur', hc⟩ := (h.lhs k hk h3).row hb
    exact ne_cells hc hi (by rw [ht]; decide) e)
  omap := h.omap.fr hf (fun e => h.omap.ne hi e)
  maps := h.maps

/-- The list of initializers: of each declaration of eks its variables. -/
def Inits (p : List It) (g : Gh) (B : Nat) (v : Value) (eks : List Nat) (w : World) : Prop :=
  ∃ ads : List Nat, ads.length = eks.length ∧ Own w (fun b => B ≤ b) 98 1 v eks.length (ads.map ptr) ∧
    ∀ (i a k : Nat), ads[i]? = some a → eks[i]? = some k → B ≤ a ∧ ∃ sl, w.heap[a]? = some (.cells #[sl] 101 (0, 0)) ∧ Own w (fun _ => True) 102 1 sl (it p k).n ((objs p k).map fun r => ptr (g.ob r))

theorem Inits.fr {p : List It} {g : Gh} {B : Nat} {v : Value} {eks : List Nat} {w w' : World} {S : Nat → Prop} (h : Inits p g B v eks w) (hf : Fr S w w') (hs : ∀ b cur t, w.heap[b]? = some (.cells cur t (0, 0)) → t = 98 ∨ t = 101 ∨ t = 102 → ¬ S b) : Inits p g B v eks w' := by
  obtain ⟨ads, h1, h2, h3⟩ := h
  refine ⟨ads, h1, h2.fr hf (fun b hb => by obtain ⟨cur, hc⟩ := h2.row hb; exact hs _ _ _ hc (.inl rfl)), fun i a k ha hk => ?_⟩
  obtain ⟨h4, sl, h5, h6⟩ := h3 i a k ha hk
  exact ⟨h4, sl, hf.heap h5 (hs _ _ _ h5 (.inr (.inl rfl))), h6.fr hf (fun b hb => by obtain ⟨cur, hc⟩ := h6.row hb; exact hs _ _ _ hc (.inr (.inr rfl)))⟩
end Go.Proofs.YtelfaljidgfphaaGreat
