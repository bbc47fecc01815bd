/-
  Keys of this program's maps: interface values that hold pointers, pointers, integers; closed facts of its types.
-/
import Derived.Test.YtelfaljidgfphaaGreatB7
import Derived.LaidEqlPtr
namespace Go.Proofs.YtelfaljidgfphaaGreat
open Go.RowKit

/-- A pointer to the head of a block. -/
def ptr (b : Nat) : Value := .pointer (some ⟨b, 0, none⟩)
/-- An interface value that holds such a pointer. -/
def ifc (t b : Nat) : Value := .iface t (ptr b)

/-- A row of cells that is not frozen. -/
def Row (w : World) (b : Nat) : Prop := ∃ c t, w.heap[b]? = some (.cells c t (0, 0))

theorem Row.fr {S : Nat → Prop} {w w' : World} {b : Nat} (h : Row w b) (hf : Fr S w w') (hs : ¬ S b) : Row w' b := by
  obtain ⟨c, t, h⟩ := h
  exact ⟨c, t, hf.heap h hs⟩

/-- A type that is a pointer to something that takes room. -/
def PtrT (P : Program) (t : Nat) : Prop := ∃ te i j, P.underlying t = some (.pointer te) ∧ P.info? t = some i ∧ i.comparable = true ∧ P.info? te = some j ∧ j.size ≠ 0

theorem equal_ptr {P : Program} {w : World} {t : Nat} (hT : PtrT P t) {a b : Nat} (ha : Row w a) (hb : Row w b) (d : Nat) : (Op.equalIn (d + 1) t (ptr a) (ptr b)).run P w = .ok (decide (a = b)) w := by
  obtain ⟨te, i, j, hp, _, _, hte, hsz⟩ := hT
  obtain ⟨ca, ta, ha⟩ := ha
  obtain ⟨cb, tb, hb⟩ := hb
  unfold ptr
  by_cases h : a = b
  · subst h
    simp [Op.equalIn, run_underlying hp, sizeOf, typeInfo, hte, run_sameAddr_same]
  · have hne : (⟨a, 0, none⟩ : Addr) ≠ ⟨b, 0, none⟩ := fun e => h (by injection e)
    simp [Op.equalIn, run_underlying hp, sizeOf, typeInfo, hte, hsz, run_sameAddr_other w hne ha hb, h]

theorem equal_ifc {P : Program} {w : World} {ti t u : Nat} {ms : Array (String × TypeId)} (hi : P.underlying ti = some (.interface ms)) (hT : PtrT P t) {a b : Nat} (ha : Row w a) (hb : Row w b) (d : Nat) :
    (Op.equalIn (d + 2) ti (ifc t a) (ifc u b)).run P w = .ok (decide (t = u) && decide (a = b)) w := by
  unfold ifc
  by_cases h : t = u
  · subst h
    have := equal_ptr hT ha hb d
    obtain ⟨te, i, j, hp, hinfo, hcomp, hte, hsz⟩ := hT
    rw [Op.equalIn]
    simp [run_underlying hi, typeInfo, hinfo, hcomp, this]
  · rw [Op.equalIn]
    simp [run_underlying hi, h]

/-- Interface values as keys. -/
theorem keyOk_ifc {P : Program} {w : World} {ti : Nat} {ms : Array (String × TypeId)} (hi : P.underlying ti = some (.interface ms)) {ty ob : Nat → Nat} {n : Nat} (hT : ∀ r, r < n → PtrT P (ty r)) (hR : ∀ r, r < n → Row w (ob r))
    (hinj : ∀ r s, r < n → s < n → ob r = ob s → r = s) : KeyOk P w ti (fun r => ifc (ty r) (ob r)) n where
  inj r s hr hs h := by
    unfold ifc ptr at h
    injection h with h1 h2
    injection h2 with h3
    injection h3 with h4
    injection h4 with h5
    exact hinj r s hr hs h5
  check em r hr := by
    obtain ⟨te, i, j, hp, hinfo, hcomp, hte, hsz⟩ := hT r hr
    have h1 : (Instr.checkKey em 9999 (ty r) (ptr (ob r))).run P w = .ok () w := by
      rw [Instr.checkKey]
      simp [run_underlying hp, ptr]
    rw [Instr.checkKey]
    simp [run_underlying hi, ifc, typeInfo, hinfo, hcomp, h1]
  eq r s hr hs := by
    show (Op.equalIn (9998 + 2) ti _ _).run P w = _
    rw [equal_ifc hi (hT r hr) (hR r hr) (hR s hs)]
    congr 1
    by_cases h : r = s
    · subst h; simp
    · have : ob r ≠ ob s := fun e => h (hinj r s hr hs e)
      simp [h, this]
  und := ⟨_, hi, .inl fun r s _ _ => rfl⟩
  stays r hr := by
    have h : Instr.sameBits 10000 (ifc (ty r) (ob r)) (ifc (ty r) (ob r)) = true := by
      unfold ifc ptr
      rw [Instr.sameBits]
      simp [Instr.sameBits]
    simp [Instr.keyThatStays, h]

/-- Pointers as keys. -/
theorem keyOk_ptr {P : Program} {w : World} {t : Nat} (hT : PtrT P t) {nd : Nat → Nat} {n : Nat} (hR : ∀ r, r < n → Row w (nd r)) (hinj : ∀ r s, r < n → s < n → nd r = nd s → r = s) : KeyOk P w t (fun r => ptr (nd r)) n where
  inj r s hr hs h := by
    unfold ptr at h
    injection h with h3
    injection h3 with h4
    injection h4 with h5
    exact hinj r s hr hs h5
  check em r hr := by
    obtain ⟨te, i, j, hp, hinfo, hcomp, hte, hsz⟩ := hT
    rw [Instr.checkKey]
    simp [run_underlying hp, ptr]
  eq r s hr hs := by
    show (Op.equalIn (9999 + 1) t _ _).run P w = _
    rw [equal_ptr hT (hR r hr) (hR s hs)]
    congr 1
    by_cases h : r = s
    · subst h; simp
    · have : nd r ≠ nd s := fun e => h (hinj r s hr hs e)
      simp [h, this]
  und := by
    obtain ⟨te, i, j, hp, hinfo, hcomp, hte, hsz⟩ := hT
    exact ⟨_, hp, .inl fun r s _ _ => rfl⟩
  stays r hr := by
    have h : Instr.sameBits 10000 (ptr (nd r)) (ptr (nd r)) = true := by
      unfold ptr
      simp [Instr.sameBits]
    simp [Instr.keyThatStays, h]

/-- Integers as keys. -/
theorem keyOk_int {P : Program} {w : World} {t : Nat} (ht : P.underlying t = some (.int .i64)) (n : Nat) : KeyOk P w t (fun r => .int .i64 (r : Int)) n where
  inj r s _ _ h := by injection h with h1 h2; omega
  check em r _ := by
    rw [Instr.checkKey]
    simp [run_underlying ht]
  eq r s _ _ := by
    show (Op.equalIn (9999 + 1) t _ _).run P w = _
    rw [Op.equalIn]
    simp [run_underlying ht]
    by_cases h : r = s
    · simp [h]
    · have : ¬ (r : Int) = (s : Int) := by omega
      simp [h, this]
  und := ⟨_, ht, .inr fun r s _ _ => by
    simp [Instr.sameNow]
    by_cases h : r = s
    · simp [h]
    · have : ¬ (r : Int) = (s : Int) := by omega
      simp [h, this]⟩
  stays r _ := by
    have h : Instr.sameBits 10000 (.int .i64 (r : Int)) (.int .i64 (r : Int)) = true := by simp [Instr.sameBits]
    simp [Instr.keyThatStays, h]

/-! ### Closed facts -/
theorem ptrT_of {P : Program} {t te : Nat} (h1 : P.underlying t = some (.pointer te)) (h2 : (P.info? t).map (·.comparable) = some true) (h3 : (P.info? te).map (fun i => decide (i.size = 0)) = some false) : PtrT P t := by
  cases hi : P.info? t with
  | none => rw [hi] at h2; cases h2
  | some i =>
    cases hj : P.info? te with
    | none => rw [hj] at h3; cases h3
    | some j =>
      rw [hi] at h2
      rw [hj] at h3
      refine ⟨te, i, j, h1, hi, by simpa using h2, hj, by simpa using h3⟩

theorem ptr102 : PtrT Tryz.prog 102 := ptrT_of (te := 106) Tryz.underlying102 (by kernel_rfl) (by kernel_rfl)
theorem ptr111 : PtrT Tryz.prog 111 := ptrT_of (te := 112) Tryz.underlying111 (by kernel_rfl) (by kernel_rfl)
theorem ptr116 : PtrT Tryz.prog 116 := ptrT_of (te := 117) Tryz.underlying116 (by kernel_rfl) (by kernel_rfl)
theorem ptr83 : PtrT Tryz.prog 83 := ptrT_of (te := 89) Tryz.underlying83 (by kernel_rfl) (by kernel_rfl)
theorem ptr110 : PtrT Tryz.prog 110 := ptrT_of (te := 115) Tryz.underlying110 (by kernel_rfl) (by kernel_rfl)
theorem zero4 (w : World) : (zeroValue 4).run Tryz.prog w = .ok (.bool false) w := by kernel_rfl
theorem zero83 (w : World) : (zeroValue 83).run Tryz.prog w = .ok (.pointer none) w := by kernel_rfl
theorem zero110 (w : World) : (zeroValue 110).run Tryz.prog w = .ok (.pointer none) w := by kernel_rfl
end Go.Proofs.YtelfaljidgfphaaGreat
