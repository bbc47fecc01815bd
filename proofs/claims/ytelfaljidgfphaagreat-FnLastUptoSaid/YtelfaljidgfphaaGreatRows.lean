/-
  No cell of these rows narrows 'for every input' (looked for: loops, veiled, ifaces, maps, wideKeys, modest, calm, conditions, laid).
  DERIVED. THE GIVEN ROWS OF THIS SEAT. 13 by the template 'for every input the law returns true; each argument reads behind the call as it read before'; 0 by the template 'total and deterministic' (their statements: YtelfaljidgfphaaGreatTotals.lean).
  GIVEN WITH THE SEED: the statements are not yours to turn. If you find one false, say at which input.
  Laid BY PROGRAM, IN A SANDBOX (cutbox-rows.mjs): the forced cells as the released guide's own fill.sh prints them over the translation 685df72442c32a11… (all of the seat's roots in one cut). By AI agents, Wed Nov 11 2026. No macro, syntax, notation, axiom, sorry.
-/
import Derived.Test.YtelfaljidgfphaaGreatChecked
import GoSem.Claim
import GoSem.ClaimJoined
import GoSem.ClaimMapViews
import Derived.JoinedTies
import Derived.KernelRfl
namespace Go.Proofs.YtelfaljidgfphaaGreat
/- THE CELL 'sum', in the pinned program and in every row, IS THE sha256 OF THE DUMP (.gsa) THAT YtelfaljidgfphaaGreatProg.lean LOADS. Nothing in Lean hashes anything: it is a label: what it is worth is what the hold of that sum in a sandbox is worth. -/
noncomputable def Tryz.pinned : Pinned := { name := "ytelfaljidgfphaagreat", sum := "685df72442c32a11aa0d9c49b2ac1bc63cdc5f912914bf97674b95fd71cb5afb", checked := Tryz.checked }
namespace Rows
def none {H : Type} : Left H := { results := [], args := [] }

/-- 'laws.FnApart': WHATEVER THE INPUT: true; the input reads as it did. -/
def fnApartSpec : ChangeSpec := { name := "fnApart", fn := fun _ => fun
  | [d1, d2, d3] => { results := [.lit (.bool true)], args := [d1, d2, d3] }
  | _ => none }
def fnApartRow : OpenClaim := { program := "ytelfaljidgfphaagreat", sum := "685df72442c32a11aa0d9c49b2ac1bc63cdc5f912914bf97674b95fd71cb5afb", func := "initializations/laws.FnApart", spec := "fnApart", inPlace := ["internal/reflectlite.ValueOf", "internal/reflectlite.Swapper", "(internal/reflectlite.Value).Len"], unfollowed := true, recurses := true, apart := false }
def FnApartSaid : Prop := fnApartRow.holds Tryz.pinned (OpenSpec.ofChange fnApartSpec)

/-- ITS FALSE NEIGHBOUR: 'it returns false'. Refute it at one input. -/
def fnApartWrong : ChangeSpec := { name := "fnApart", fn := fun _ => fun
  | [d1, d2, d3] => { results := [.lit (.bool false)], args := [d1, d2, d3] }
  | _ => none }
def FnApartWrongFalsely : Prop := fnApartRow.holds Tryz.pinned (OpenSpec.ofChange fnApartWrong)

/-- 'laws.FnConstants': WHATEVER THE INPUT: true; the input reads as it did. -/
def fnConstantsSpec : ChangeSpec := { name := "fnConstants", fn := fun _ => fun
  | [d] => { results := [.lit (.bool true)], args := [d] }
  | _ => none }
def fnConstantsRow : OpenClaim := { program := "ytelfaljidgfphaagreat", sum := "685df72442c32a11aa0d9c49b2ac1bc63cdc5f912914bf97674b95fd71cb5afb", func := "initializations/laws.FnConstants", spec := "fnConstants", inPlace := ["internal/reflectlite.ValueOf", "internal/reflectlite.Swapper", "(internal/reflectlite.Value).Len"], unfollowed := true, recurses := true, apart := false }
def FnConstantsSaid : Prop := fnConstantsRow.holds Tryz.pinned (OpenSpec.ofChange fnConstantsSpec)

/-- ITS FALSE NEIGHBOUR: 'it returns false'. Refute it at one input. -/
def fnConstantsWrong : ChangeSpec := { name := "fnConstants", fn := fun _ => fun
  | [d] => { results := [.lit (.bool false)], args := [d] }
  | _ => none }
def FnConstantsWrongFalsely : Prop := fnConstantsRow.holds Tryz.pinned (OpenSpec.ofChange fnConstantsWrong)

/-- 'laws.FnFunctions': WHATEVER THE INPUT: true; the input reads as it did. -/
def fnFunctionsSpec : ChangeSpec := { name := "fnFunctions", fn := fun _ => fun
  | [d] => { results := [.lit (.bool true)], args := [d] }
  | _ => none }
def fnFunctionsRow : OpenClaim := { program := "ytelfaljidgfphaagreat", sum := "685df72442c32a11aa0d9c49b2ac1bc63cdc5f912914bf97674b95fd71cb5afb", func := "initializations/laws.FnFunctions", spec := "fnFunctions", inPlace := ["internal/reflectlite.ValueOf", "internal/reflectlite.Swapper", "(internal/reflectlite.Value).Len"], unfollowed := true, recurses := true, apart := false }
def FnFunctionsSaid : Prop := fnFunctionsRow.holds Tryz.pinned (OpenSpec.ofChange fnFunctionsSpec)

/-- ITS FALSE NEIGHBOUR: 'it returns false'. Refute it at one input. -/
def fnFunctionsWrong : ChangeSpec := { name := "fnFunctions", fn := fun _ => fun
  | [d] => { results := [.lit (.bool false)], args := [d] }
  | _ => none }
def FnFunctionsWrongFalsely : Prop := fnFunctionsRow.holds Tryz.pinned (OpenSpec.ofChange fnFunctionsWrong)

/-- 'laws.FnGroups': WHATEVER THE INPUT: true; the input reads as it did. -/
def fnGroupsSpec : ChangeSpec := { name := "fnGroups", fn := fun _ => fun
  | [d] => { results := [.lit (.bool true)], args := [d] }
  | _ => none }
def fnGroupsRow : OpenClaim := { program := "ytelfaljidgfphaagreat", sum := "685df72442c32a11aa0d9c49b2ac1bc63cdc5f912914bf97674b95fd71cb5afb", func := "initializations/laws.FnGroups", spec := "fnGroups", inPlace := ["internal/reflectlite.ValueOf", "internal/reflectlite.Swapper", "(internal/reflectlite.Value).Len"], unfollowed := true, recurses := true, apart := false }
def FnGroupsSaid : Prop := fnGroupsRow.holds Tryz.pinned (OpenSpec.ofChange fnGroupsSpec)

/-- ITS FALSE NEIGHBOUR: 'it returns false'. Refute it at one input. -/
def fnGroupsWrong : ChangeSpec := { name := "fnGroups", fn := fun _ => fun
  | [d] => { results := [.lit (.bool false)], args := [d] }
  | _ => none }
def FnGroupsWrongFalsely : Prop := fnGroupsRow.holds Tryz.pinned (OpenSpec.ofChange fnGroupsWrong)

/-- 'laws.FnLast': WHATEVER THE INPUT: true; the input reads as it did. -/
def fnLastSpec : ChangeSpec := { name := "fnLast", fn := fun _ => fun
  | [d1, d2, d3, d4] => { results := [.lit (.bool true)], args := [d1, d2, d3, d4] }
  | _ => none }
def fnLastRow : OpenClaim := { program := "ytelfaljidgfphaagreat", sum := "685df72442c32a11aa0d9c49b2ac1bc63cdc5f912914bf97674b95fd71cb5afb", func := "initializations/laws.FnLast", spec := "fnLast", inPlace := ["internal/reflectlite.ValueOf", "internal/reflectlite.Swapper", "(internal/reflectlite.Value).Len"], unfollowed := true, recurses := true, apart := false }
def FnLastSaid : Prop := fnLastRow.holds Tryz.pinned (OpenSpec.ofChange fnLastSpec)

/-- ITS FALSE NEIGHBOUR: 'it returns false'. Refute it at one input. -/
def fnLastWrong : ChangeSpec := { name := "fnLast", fn := fun _ => fun
  | [d1, d2, d3, d4] => { results := [.lit (.bool false)], args := [d1, d2, d3, d4] }
  | _ => none }
def FnLastWrongFalsely : Prop := fnLastRow.holds Tryz.pinned (OpenSpec.ofChange fnLastWrong)

/-- 'laws.FnMore': WHATEVER THE INPUT: true; the input reads as it did. -/
def fnMoreSpec : ChangeSpec := { name := "fnMore", fn := fun _ => fun
  | [d1, d2, d3] => { results := [.lit (.bool true)], args := [d1, d2, d3] }
  | _ => none }
def fnMoreRow : OpenClaim := { program := "ytelfaljidgfphaagreat", sum := "685df72442c32a11aa0d9c49b2ac1bc63cdc5f912914bf97674b95fd71cb5afb", func := "initializations/laws.FnMore", spec := "fnMore", inPlace := ["internal/reflectlite.ValueOf", "internal/reflectlite.Swapper", "(internal/reflectlite.Value).Len"], unfollowed := true, recurses := true, apart := false }
def FnMoreSaid : Prop := fnMoreRow.holds Tryz.pinned (OpenSpec.ofChange fnMoreSpec)

/-- ITS FALSE NEIGHBOUR: 'it returns false'. Refute it at one input. -/
def fnMoreWrong : ChangeSpec := { name := "fnMore", fn := fun _ => fun
  | [d1, d2, d3] => { results := [.lit (.bool false)], args := [d1, d2, d3] }
  | _ => none }
def FnMoreWrongFalsely : Prop := fnMoreRow.holds Tryz.pinned (OpenSpec.ofChange fnMoreWrong)

/-- 'laws.FnOrder': WHATEVER THE INPUT: true; the input reads as it did. -/
def fnOrderSpec : ChangeSpec := { name := "fnOrder", fn := fun _ => fun
  | [d] => { results := [.lit (.bool true)], args := [d] }
  | _ => none }
def fnOrderRow : OpenClaim := { program := "ytelfaljidgfphaagreat", sum := "685df72442c32a11aa0d9c49b2ac1bc63cdc5f912914bf97674b95fd71cb5afb", func := "initializations/laws.FnOrder", spec := "fnOrder", inPlace := ["internal/reflectlite.ValueOf", "internal/reflectlite.Swapper", "(internal/reflectlite.Value).Len"], unfollowed := true, recurses := true, apart := false }
def FnOrderSaid : Prop := fnOrderRow.holds Tryz.pinned (OpenSpec.ofChange fnOrderSpec)

/-- ITS FALSE NEIGHBOUR: 'it returns false'. Refute it at one input. -/
def fnOrderWrong : ChangeSpec := { name := "fnOrder", fn := fun _ => fun
  | [d] => { results := [.lit (.bool false)], args := [d] }
  | _ => none }
def FnOrderWrongFalsely : Prop := fnOrderRow.holds Tryz.pinned (OpenSpec.ofChange fnOrderWrong)

/-- 'laws.FnPlain': WHATEVER THE INPUT: true; the input reads as it did. -/
def fnPlainSpec : ChangeSpec := { name := "fnPlain", fn := fun _ => fun
  | [d] => { results := [.lit (.bool true)], args := [d] }
  | _ => none }
def fnPlainRow : OpenClaim := { program := "ytelfaljidgfphaagreat", sum := "685df72442c32a11aa0d9c49b2ac1bc63cdc5f912914bf97674b95fd71cb5afb", func := "initializations/laws.FnPlain", spec := "fnPlain", inPlace := ["internal/reflectlite.ValueOf", "internal/reflectlite.Swapper", "(internal/reflectlite.Value).Len"], unfollowed := true, recurses := true, apart := false }
def FnPlainSaid : Prop := fnPlainRow.holds Tryz.pinned (OpenSpec.ofChange fnPlainSpec)

/-- ITS FALSE NEIGHBOUR: 'it returns false'. Refute it at one input. -/
def fnPlainWrong : ChangeSpec := { name := "fnPlain", fn := fun _ => fun
  | [d] => { results := [.lit (.bool false)], args := [d] }
  | _ => none }
def FnPlainWrongFalsely : Prop := fnPlainRow.holds Tryz.pinned (OpenSpec.ofChange fnPlainWrong)

/-- 'laws.FnShown': WHATEVER THE INPUT: true; the input reads as it did. -/
def fnShownSpec : ChangeSpec := { name := "fnShown", fn := fun _ => fun
  | [d1, d2, d3] => { results := [.lit (.bool true)], args := [d1, d2, d3] }
  | _ => none }
def fnShownRow : OpenClaim := { program := "ytelfaljidgfphaagreat", sum := "685df72442c32a11aa0d9c49b2ac1bc63cdc5f912914bf97674b95fd71cb5afb", func := "initializations/laws.FnShown", spec := "fnShown", inPlace := ["internal/reflectlite.ValueOf", "internal/reflectlite.Swapper", "(internal/reflectlite.Value).Len"], unfollowed := true, recurses := true, apart := false }
def FnShownSaid : Prop := fnShownRow.holds Tryz.pinned (OpenSpec.ofChange fnShownSpec)

/-- ITS FALSE NEIGHBOUR: 'it returns false'. Refute it at one input. -/
def fnShownWrong : ChangeSpec := { name := "fnShown", fn := fun _ => fun
  | [d1, d2, d3] => { results := [.lit (.bool false)], args := [d1, d2, d3] }
  | _ => none }
def FnShownWrongFalsely : Prop := fnShownRow.holds Tryz.pinned (OpenSpec.ofChange fnShownWrong)

/-- 'laws.FnSource': WHATEVER THE INPUT: true; the input reads as it did. -/
def fnSourceSpec : ChangeSpec := { name := "fnSource", fn := fun _ => fun
  | [d] => { results := [.lit (.bool true)], args := [d] }
  | _ => none }
def fnSourceRow : OpenClaim := { program := "ytelfaljidgfphaagreat", sum := "685df72442c32a11aa0d9c49b2ac1bc63cdc5f912914bf97674b95fd71cb5afb", func := "initializations/laws.FnSource", spec := "fnSource", inPlace := ["internal/reflectlite.ValueOf", "internal/reflectlite.Swapper", "(internal/reflectlite.Value).Len"], unfollowed := true, recurses := true, apart := false }
def FnSourceSaid : Prop := fnSourceRow.holds Tryz.pinned (OpenSpec.ofChange fnSourceSpec)

/-- ITS FALSE NEIGHBOUR: 'it returns false'. Refute it at one input. -/
def fnSourceWrong : ChangeSpec := { name := "fnSource", fn := fun _ => fun
  | [d] => { results := [.lit (.bool false)], args := [d] }
  | _ => none }
def FnSourceWrongFalsely : Prop := fnSourceRow.holds Tryz.pinned (OpenSpec.ofChange fnSourceWrong)

/-- 'laws.FnTopological': WHATEVER THE INPUT: true; the input reads as it did. -/
def fnTopologicalSpec : ChangeSpec := { name := "fnTopological", fn := fun _ => fun
  | [d] => { results := [.lit (.bool true)], args := [d] }
  | _ => none }
def fnTopologicalRow : OpenClaim := { program := "ytelfaljidgfphaagreat", sum := "685df72442c32a11aa0d9c49b2ac1bc63cdc5f912914bf97674b95fd71cb5afb", func := "initializations/laws.FnTopological", spec := "fnTopological", inPlace := ["internal/reflectlite.ValueOf", "internal/reflectlite.Swapper", "(internal/reflectlite.Value).Len"], unfollowed := true, recurses := true, apart := false }
def FnTopologicalSaid : Prop := fnTopologicalRow.holds Tryz.pinned (OpenSpec.ofChange fnTopologicalSpec)

/-- ITS FALSE NEIGHBOUR: 'it returns false'. Refute it at one input. -/
def fnTopologicalWrong : ChangeSpec := { name := "fnTopological", fn := fun _ => fun
  | [d] => { results := [.lit (.bool false)], args := [d] }
  | _ => none }
def FnTopologicalWrongFalsely : Prop := fnTopologicalRow.holds Tryz.pinned (OpenSpec.ofChange fnTopologicalWrong)

/-- 'laws.FnTurned': WHATEVER THE INPUT: true; the input reads as it did. -/
def fnTurnedSpec : ChangeSpec := { name := "fnTurned", fn := fun _ => fun
  | [d] => { results := [.lit (.bool true)], args := [d] }
  | _ => none }
def fnTurnedRow : OpenClaim := { program := "ytelfaljidgfphaagreat", sum := "685df72442c32a11aa0d9c49b2ac1bc63cdc5f912914bf97674b95fd71cb5afb", func := "initializations/laws.FnTurned", spec := "fnTurned", inPlace := ["internal/reflectlite.ValueOf", "internal/reflectlite.Swapper", "(internal/reflectlite.Value).Len"], unfollowed := true, recurses := true, apart := false }
def FnTurnedSaid : Prop := fnTurnedRow.holds Tryz.pinned (OpenSpec.ofChange fnTurnedSpec)

/-- ITS FALSE NEIGHBOUR: 'it returns false'. Refute it at one input. -/
def fnTurnedWrong : ChangeSpec := { name := "fnTurned", fn := fun _ => fun
  | [d] => { results := [.lit (.bool false)], args := [d] }
  | _ => none }
def FnTurnedWrongFalsely : Prop := fnTurnedRow.holds Tryz.pinned (OpenSpec.ofChange fnTurnedWrong)

/-- 'laws.FnGraph': WHATEVER THE INPUT: true; the input reads as it did. -/
def fnGraphSpec : ChangeSpec := { name := "fnGraph", fn := fun _ => fun
  | [d] => { results := [.lit (.bool true)], args := [d] }
  | _ => none }
def fnGraphRow : OpenClaim := { program := "ytelfaljidgfphaagreat", sum := "685df72442c32a11aa0d9c49b2ac1bc63cdc5f912914bf97674b95fd71cb5afb", func := "initializations/laws.FnGraph", spec := "fnGraph", inPlace := ["internal/reflectlite.ValueOf", "internal/reflectlite.Swapper", "(internal/reflectlite.Value).Len"], unfollowed := true, recurses := true, apart := false }
def FnGraphSaid : Prop := fnGraphRow.holds Tryz.pinned (OpenSpec.ofChange fnGraphSpec)

/-- ITS FALSE NEIGHBOUR: 'it returns false'. Refute it at one input. -/
def fnGraphWrong : ChangeSpec := { name := "fnGraph", fn := fun _ => fun
  | [d] => { results := [.lit (.bool false)], args := [d] }
  | _ => none }
def FnGraphWrongFalsely : Prop := fnGraphRow.holds Tryz.pinned (OpenSpec.ofChange fnGraphWrong)

/- THE SECOND FORM. 'bulk': how many values and letters a reading holds, each counted each time it is reached (what is shared counts as often as it is met; a slice's spare places count too). A statement '..UptoSaid' is the law's where the arguments, and the package variables that the reading takes, are together of bulk at most 1048576: NARROWER than '..Said'. Prove '..Said' where nothing that the law and all that it calls make is longer than what came in: it says more and counts as full. Else prove '..UptoSaid'. A law counts once. -/
mutual
def uptoBulk {H : Type} : DataW H → Nat
  | .lit (.string bytes) => bytes.length + 1
  | .lit _ => 1
  | .nil => 1
  | .ptr d => uptoBulk d + 1
  | .slice elems spare => uptoBulkAll elems + uptoBulkAll spare + 1
  | .agg parts => uptoBulkAll parts + 1
  | .iface _ d => uptoBulk d + 1
  | .map entries => uptoBulkEntries entries + 1
  | .held _ => 1
def uptoBulkAll {H : Type} : List (DataW H) → Nat
  | [] => 0
  | d :: r => uptoBulk d + uptoBulkAll r
def uptoBulkEntries {H : Type} : List (Lit × DataW H) → Nat
  | [] => 0
  | x :: r => uptoBulkEntry x + uptoBulkEntries r
def uptoBulkEntry {H : Type} : Lit × DataW H → Nat
  | (.string bytes, d) => bytes.length + uptoBulk d + 1
  | (_, d) => uptoBulk d + 1
 end
def uptoSmall : (H : Type) → List (DataW H) → Bool := fun _ ds => decide (uptoBulkAll ds ≤ 1048576)
def OpenSpec.upto (s : _root_.Go.ChangeSpec) : _root_.Go.OpenSpec := { _root_.Go.OpenSpec.ofChange s with cond := some uptoSmall }

/-- 'laws.FnApart', WHERE WHAT IT READS IS OF BULK AT MOST 1048576: true; the input reads as it did. -/
def fnApartUptoRow : OpenClaim := { program := "ytelfaljidgfphaagreat", sum := "685df72442c32a11aa0d9c49b2ac1bc63cdc5f912914bf97674b95fd71cb5afb", func := "initializations/laws.FnApart", spec := "fnApart", inPlace := ["internal/reflectlite.ValueOf", "internal/reflectlite.Swapper", "(internal/reflectlite.Value).Len"], unfollowed := true, recurses := true, apart := false, narrowed := true }
def FnApartUptoSaid : Prop := fnApartUptoRow.holds Tryz.pinned (OpenSpec.upto fnApartSpec)

/-- 'laws.FnConstants', WHERE WHAT IT READS IS OF BULK AT MOST 1048576: true; the input reads as it did. -/
def fnConstantsUptoRow : OpenClaim := { program := "ytelfaljidgfphaagreat", sum := "685df72442c32a11aa0d9c49b2ac1bc63cdc5f912914bf97674b95fd71cb5afb", func := "initializations/laws.FnConstants", spec := "fnConstants", inPlace := ["internal/reflectlite.ValueOf", "internal/reflectlite.Swapper", "(internal/reflectlite.Value).Len"], unfollowed := true, recurses := true, apart := false, narrowed := true }
def FnConstantsUptoSaid : Prop := fnConstantsUptoRow.holds Tryz.pinned (OpenSpec.upto fnConstantsSpec)

/-- 'laws.FnFunctions', WHERE WHAT IT READS IS OF BULK AT MOST 1048576: true; the input reads as it did. -/
def fnFunctionsUptoRow : OpenClaim := { program := "ytelfaljidgfphaagreat", sum := "685df72442c32a11aa0d9c49b2ac1bc63cdc5f912914bf97674b95fd71cb5afb", func := "initializations/laws.FnFunctions", spec := "fnFunctions", inPlace := ["internal/reflectlite.ValueOf", "internal/reflectlite.Swapper", "(internal/reflectlite.Value).Len"], unfollowed := true, recurses := true, apart := false, narrowed := true }
def FnFunctionsUptoSaid : Prop := fnFunctionsUptoRow.holds Tryz.pinned (OpenSpec.upto fnFunctionsSpec)

/-- 'laws.FnGroups', WHERE WHAT IT READS IS OF BULK AT MOST 1048576: true; the input reads as it did. -/
def fnGroupsUptoRow : OpenClaim := { program := "ytelfaljidgfphaagreat", sum := "685df72442c32a11aa0d9c49b2ac1bc63cdc5f912914bf97674b95fd71cb5afb", func := "initializations/laws.FnGroups", spec := "fnGroups", inPlace := ["internal/reflectlite.ValueOf", "internal/reflectlite.Swapper", "(internal/reflectlite.Value).Len"], unfollowed := true, recurses := true, apart := false, narrowed := true }
def FnGroupsUptoSaid : Prop := fnGroupsUptoRow.holds Tryz.pinned (OpenSpec.upto fnGroupsSpec)

/-- 'laws.FnLast', WHERE WHAT IT READS IS OF BULK AT MOST 1048576: true; the input reads as it did. -/
def fnLastUptoRow : OpenClaim := { program := "ytelfaljidgfphaagreat", sum := "685df72442c32a11aa0d9c49b2ac1bc63cdc5f912914bf97674b95fd71cb5afb", func := "initializations/laws.FnLast", spec := "fnLast", inPlace := ["internal/reflectlite.ValueOf", "internal/reflectlite.Swapper", "(internal/reflectlite.Value).Len"], unfollowed := true, recurses := true, apart := false, narrowed := true }
def FnLastUptoSaid : Prop := fnLastUptoRow.holds Tryz.pinned (OpenSpec.upto fnLastSpec)

/-- 'laws.FnMore', WHERE WHAT IT READS IS OF BULK AT MOST 1048576: true; the input reads as it did. -/
def fnMoreUptoRow : OpenClaim := { program := "ytelfaljidgfphaagreat", sum := "685df72442c32a11aa0d9c49b2ac1bc63cdc5f912914bf97674b95fd71cb5afb", func := "initializations/laws.FnMore", spec := "fnMore", inPlace := ["internal/reflectlite.ValueOf", "internal/reflectlite.Swapper", "(internal/reflectlite.Value).Len"], unfollowed := true, recurses := true, apart := false, narrowed := true }
def FnMoreUptoSaid : Prop := fnMoreUptoRow.holds Tryz.pinned (OpenSpec.upto fnMoreSpec)

/-- 'laws.FnOrder', WHERE WHAT IT READS IS OF BULK AT MOST 1048576: true; the input reads as it did. -/
def fnOrderUptoRow : OpenClaim := { program := "ytelfaljidgfphaagreat", sum := "685df72442c32a11aa0d9c49b2ac1bc63cdc5f912914bf97674b95fd71cb5afb", func := "initializations/laws.FnOrder", spec := "fnOrder", inPlace := ["internal/reflectlite.ValueOf", "internal/reflectlite.Swapper", "(internal/reflectlite.Value).Len"], unfollowed := true, recurses := true, apart := false, narrowed := true }
def FnOrderUptoSaid : Prop := fnOrderUptoRow.holds Tryz.pinned (OpenSpec.upto fnOrderSpec)

/-- 'laws.FnPlain', WHERE WHAT IT READS IS OF BULK AT MOST 1048576: true; the input reads as it did. -/
def fnPlainUptoRow : OpenClaim := { program := "ytelfaljidgfphaagreat", sum := "685df72442c32a11aa0d9c49b2ac1bc63cdc5f912914bf97674b95fd71cb5afb", func := "initializations/laws.FnPlain", spec := "fnPlain", inPlace := ["internal/reflectlite.ValueOf", "internal/reflectlite.Swapper", "(internal/reflectlite.Value).Len"], unfollowed := true, recurses := true, apart := false, narrowed := true }
def FnPlainUptoSaid : Prop := fnPlainUptoRow.holds Tryz.pinned (OpenSpec.upto fnPlainSpec)

/-- 'laws.FnShown', WHERE WHAT IT READS IS OF BULK AT MOST 1048576: true; the input reads as it did. -/
def fnShownUptoRow : OpenClaim := { program := "ytelfaljidgfphaagreat", sum := "685df72442c32a11aa0d9c49b2ac1bc63cdc5f912914bf97674b95fd71cb5afb", func := "initializations/laws.FnShown", spec := "fnShown", inPlace := ["internal/reflectlite.ValueOf", "internal/reflectlite.Swapper", "(internal/reflectlite.Value).Len"], unfollowed := true, recurses := true, apart := false, narrowed := true }
def FnShownUptoSaid : Prop := fnShownUptoRow.holds Tryz.pinned (OpenSpec.upto fnShownSpec)

/-- 'laws.FnSource', WHERE WHAT IT READS IS OF BULK AT MOST 1048576: true; the input reads as it did. -/
def fnSourceUptoRow : OpenClaim := { program := "ytelfaljidgfphaagreat", sum := "685df72442c32a11aa0d9c49b2ac1bc63cdc5f912914bf97674b95fd71cb5afb", func := "initializations/laws.FnSource", spec := "fnSource", inPlace := ["internal/reflectlite.ValueOf", "internal/reflectlite.Swapper", "(internal/reflectlite.Value).Len"], unfollowed := true, recurses := true, apart := false, narrowed := true }
def FnSourceUptoSaid : Prop := fnSourceUptoRow.holds Tryz.pinned (OpenSpec.upto fnSourceSpec)

/-- 'laws.FnTopological', WHERE WHAT IT READS IS OF BULK AT MOST 1048576: true; the input reads as it did. -/
def fnTopologicalUptoRow : OpenClaim := { program := "ytelfaljidgfphaagreat", sum := "685df72442c32a11aa0d9c49b2ac1bc63cdc5f912914bf97674b95fd71cb5afb", func := "initializations/laws.FnTopological", spec := "fnTopological", inPlace := ["internal/reflectlite.ValueOf", "internal/reflectlite.Swapper", "(internal/reflectlite.Value).Len"], unfollowed := true, recurses := true, apart := false, narrowed := true }
def FnTopologicalUptoSaid : Prop := fnTopologicalUptoRow.holds Tryz.pinned (OpenSpec.upto fnTopologicalSpec)

/-- 'laws.FnTurned', WHERE WHAT IT READS IS OF BULK AT MOST 1048576: true; the input reads as it did. -/
def fnTurnedUptoRow : OpenClaim := { program := "ytelfaljidgfphaagreat", sum := "685df72442c32a11aa0d9c49b2ac1bc63cdc5f912914bf97674b95fd71cb5afb", func := "initializations/laws.FnTurned", spec := "fnTurned", inPlace := ["internal/reflectlite.ValueOf", "internal/reflectlite.Swapper", "(internal/reflectlite.Value).Len"], unfollowed := true, recurses := true, apart := false, narrowed := true }
def FnTurnedUptoSaid : Prop := fnTurnedUptoRow.holds Tryz.pinned (OpenSpec.upto fnTurnedSpec)

/-- 'laws.FnGraph', WHERE WHAT IT READS IS OF BULK AT MOST 1048576: true; the input reads as it did. -/
def fnGraphUptoRow : OpenClaim := { program := "ytelfaljidgfphaagreat", sum := "685df72442c32a11aa0d9c49b2ac1bc63cdc5f912914bf97674b95fd71cb5afb", func := "initializations/laws.FnGraph", spec := "fnGraph", inPlace := ["internal/reflectlite.ValueOf", "internal/reflectlite.Swapper", "(internal/reflectlite.Value).Len"], unfollowed := true, recurses := true, apart := false, narrowed := true }
def FnGraphUptoSaid : Prop := fnGraphUptoRow.holds Tryz.pinned (OpenSpec.upto fnGraphSpec)

end Rows
end Go.Proofs.YtelfaljidgfphaaGreat
