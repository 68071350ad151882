/-
  No cell of these rows narrows 'for every input' (looked for: loops, veiled, ifaces, maps, wideKeys, modest, calm, conditions, laid).
  DERIVED. THE GIVEN ROWS OF THIS SEAT. 7 by the template 'for every input the law returns true; each argument reads behind the call as it read before'; 0 by the template 'total and deterministic' (their statements: Qxb6600349aTotals.lean).
  GIVEN WITH THE SEED: the statements are not yours to turn. If you find one false, say at which input.
  Laid BY PROGRAM, IN A SANDBOX (cutbox-rows.mjs): the forced cells as the released guide's own fill.sh prints them over the translation 566e5d788d9c8ddc… (all of the seat's roots in one cut). By AI agents, Wed Nov 11 2026. No macro, syntax, notation, axiom, sorry.
-/
import Derived.Test.Qxb6600349aChecked
import GoSem.Claim
import GoSem.ClaimJoined
import GoSem.ClaimMapViews
import Derived.JoinedTies
import Derived.KernelRfl
namespace Go.Proofs.Qxb6600349a
/- THE CELL 'sum', in the pinned program and in every row, IS THE sha256 OF THE DUMP (.gsa) THAT Qxb6600349aProg.lean LOADS. Nothing in Lean hashes anything: it is a label: what it is worth is what the hold of that sum in a sandbox is worth. -/
noncomputable def Try.pinned : Pinned := { name := "qxb6600349a", sum := "566e5d788d9c8ddc331130e210d3cdfb81701ecf9b261126da439eac68da6739", checked := Try.checked }
namespace Rows
def none {H : Type} : Left H := { results := [], args := [] }

/-- 'zzlaws_root_b1.FnEightDigitsModel': WHATEVER THE INPUT: true; the input reads as it did. -/
def fnEightDigitsModelSpec : ChangeSpec := { name := "fnEightDigitsModel", fn := fun _ => fun
  | [d] => { results := [.lit (.bool true)], args := [d] }
  | _ => none }
def fnEightDigitsModelRow : OpenClaim := { program := "qxb6600349a", sum := "566e5d788d9c8ddc331130e210d3cdfb81701ecf9b261126da439eac68da6739", func := "example.com/beforehand/beforehand/zzlaws_root_b1.FnEightDigitsModel", spec := "fnEightDigitsModel", apart := false }
def FnEightDigitsModelSaid : Prop := fnEightDigitsModelRow.holds Try.pinned (OpenSpec.ofChange fnEightDigitsModelSpec)

/-- ITS FALSE NEIGHBOUR: 'it returns false'. Refute it at one input. -/
def fnEightDigitsModelWrong : ChangeSpec := { name := "fnEightDigitsModel", fn := fun _ => fun
  | [d] => { results := [.lit (.bool false)], args := [d] }
  | _ => none }
def FnEightDigitsModelWrongFalsely : Prop := fnEightDigitsModelRow.holds Try.pinned (OpenSpec.ofChange fnEightDigitsModelWrong)

/-- 'zzlaws_root_b1.FnEightDigitsRoundTrip': WHATEVER THE INPUT: true; the input reads as it did. -/
def fnEightDigitsRoundTripSpec : ChangeSpec := { name := "fnEightDigitsRoundTrip", fn := fun _ => fun
  | [d] => { results := [.lit (.bool true)], args := [d] }
  | _ => none }
def fnEightDigitsRoundTripRow : OpenClaim := { program := "qxb6600349a", sum := "566e5d788d9c8ddc331130e210d3cdfb81701ecf9b261126da439eac68da6739", func := "example.com/beforehand/beforehand/zzlaws_root_b1.FnEightDigitsRoundTrip", spec := "fnEightDigitsRoundTrip", apart := false }
def FnEightDigitsRoundTripSaid : Prop := fnEightDigitsRoundTripRow.holds Try.pinned (OpenSpec.ofChange fnEightDigitsRoundTripSpec)

/-- ITS FALSE NEIGHBOUR: 'it returns false'. Refute it at one input. -/
def fnEightDigitsRoundTripWrong : ChangeSpec := { name := "fnEightDigitsRoundTrip", fn := fun _ => fun
  | [d] => { results := [.lit (.bool false)], args := [d] }
  | _ => none }
def FnEightDigitsRoundTripWrongFalsely : Prop := fnEightDigitsRoundTripRow.holds Try.pinned (OpenSpec.ofChange fnEightDigitsRoundTripWrong)

/-- 'zzlaws_root_b1.FnScanEscapePrefixShift': WHATEVER THE INPUT: true; the input reads as it did. -/
def fnScanEscapePrefixShiftSpec : ChangeSpec := { name := "fnScanEscapePrefixShift", fn := fun _ => fun
  | [d1, d2, d3] => { results := [.lit (.bool true)], args := [d1, d2, d3] }
  | _ => none }
def fnScanEscapePrefixShiftRow : OpenClaim := { program := "qxb6600349a", sum := "566e5d788d9c8ddc331130e210d3cdfb81701ecf9b261126da439eac68da6739", func := "example.com/beforehand/beforehand/zzlaws_root_b1.FnScanEscapePrefixShift", spec := "fnScanEscapePrefixShift", apart := false }
def FnScanEscapePrefixShiftSaid : Prop := fnScanEscapePrefixShiftRow.holds Try.pinned (OpenSpec.ofChange fnScanEscapePrefixShiftSpec)

/-- ITS FALSE NEIGHBOUR: 'it returns false'. Refute it at one input. -/
def fnScanEscapePrefixShiftWrong : ChangeSpec := { name := "fnScanEscapePrefixShift", fn := fun _ => fun
  | [d1, d2, d3] => { results := [.lit (.bool false)], args := [d1, d2, d3] }
  | _ => none }
def FnScanEscapePrefixShiftWrongFalsely : Prop := fnScanEscapePrefixShiftRow.holds Try.pinned (OpenSpec.ofChange fnScanEscapePrefixShiftWrong)

/-- 'zzlaws_root_b1.FnScanEscapeExtension': WHATEVER THE INPUT: true; the input reads as it did. -/
def fnScanEscapeExtensionSpec : ChangeSpec := { name := "fnScanEscapeExtension", fn := fun _ => fun
  | [d1, d2, d3] => { results := [.lit (.bool true)], args := [d1, d2, d3] }
  | _ => none }
def fnScanEscapeExtensionRow : OpenClaim := { program := "qxb6600349a", sum := "566e5d788d9c8ddc331130e210d3cdfb81701ecf9b261126da439eac68da6739", func := "example.com/beforehand/beforehand/zzlaws_root_b1.FnScanEscapeExtension", spec := "fnScanEscapeExtension", apart := false }
def FnScanEscapeExtensionSaid : Prop := fnScanEscapeExtensionRow.holds Try.pinned (OpenSpec.ofChange fnScanEscapeExtensionSpec)

/-- ITS FALSE NEIGHBOUR: 'it returns false'. Refute it at one input. -/
def fnScanEscapeExtensionWrong : ChangeSpec := { name := "fnScanEscapeExtension", fn := fun _ => fun
  | [d1, d2, d3] => { results := [.lit (.bool false)], args := [d1, d2, d3] }
  | _ => none }
def FnScanEscapeExtensionWrongFalsely : Prop := fnScanEscapeExtensionRow.holds Try.pinned (OpenSpec.ofChange fnScanEscapeExtensionWrong)

/-- 'zzlaws_root_b1.FnScanNumberAutomaton': WHATEVER THE INPUT: true; the input reads as it did. -/
def fnScanNumberAutomatonSpec : ChangeSpec := { name := "fnScanNumberAutomaton", fn := fun _ => fun
  | [d1, d2] => { results := [.lit (.bool true)], args := [d1, d2] }
  | _ => none }
def fnScanNumberAutomatonRow : OpenClaim := { program := "qxb6600349a", sum := "566e5d788d9c8ddc331130e210d3cdfb81701ecf9b261126da439eac68da6739", func := "example.com/beforehand/beforehand/zzlaws_root_b1.FnScanNumberAutomaton", spec := "fnScanNumberAutomaton", apart := false }
def FnScanNumberAutomatonSaid : Prop := fnScanNumberAutomatonRow.holds Try.pinned (OpenSpec.ofChange fnScanNumberAutomatonSpec)

/-- ITS FALSE NEIGHBOUR: 'it returns false'. Refute it at one input. -/
def fnScanNumberAutomatonWrong : ChangeSpec := { name := "fnScanNumberAutomaton", fn := fun _ => fun
  | [d1, d2] => { results := [.lit (.bool false)], args := [d1, d2] }
  | _ => none }
def FnScanNumberAutomatonWrongFalsely : Prop := fnScanNumberAutomatonRow.holds Try.pinned (OpenSpec.ofChange fnScanNumberAutomatonWrong)

/-- 'zzlaws_root_b1.FnScanNumberSelfDelimiting': WHATEVER THE INPUT: true; the input reads as it did. -/
def fnScanNumberSelfDelimitingSpec : ChangeSpec := { name := "fnScanNumberSelfDelimiting", fn := fun _ => fun
  | [d1, d2] => { results := [.lit (.bool true)], args := [d1, d2] }
  | _ => none }
def fnScanNumberSelfDelimitingRow : OpenClaim := { program := "qxb6600349a", sum := "566e5d788d9c8ddc331130e210d3cdfb81701ecf9b261126da439eac68da6739", func := "example.com/beforehand/beforehand/zzlaws_root_b1.FnScanNumberSelfDelimiting", spec := "fnScanNumberSelfDelimiting", apart := false }
def FnScanNumberSelfDelimitingSaid : Prop := fnScanNumberSelfDelimitingRow.holds Try.pinned (OpenSpec.ofChange fnScanNumberSelfDelimitingSpec)

/-- ITS FALSE NEIGHBOUR: 'it returns false'. Refute it at one input. -/
def fnScanNumberSelfDelimitingWrong : ChangeSpec := { name := "fnScanNumberSelfDelimiting", fn := fun _ => fun
  | [d1, d2] => { results := [.lit (.bool false)], args := [d1, d2] }
  | _ => none }
def FnScanNumberSelfDelimitingWrongFalsely : Prop := fnScanNumberSelfDelimitingRow.holds Try.pinned (OpenSpec.ofChange fnScanNumberSelfDelimitingWrong)

/-- 'zzlaws_root_b1.FnScanNumberMinus': WHATEVER THE INPUT: true; the input reads as it did. -/
def fnScanNumberMinusSpec : ChangeSpec := { name := "fnScanNumberMinus", fn := fun _ => fun
  | [d1, d2] => { results := [.lit (.bool true)], args := [d1, d2] }
  | _ => none }
def fnScanNumberMinusRow : OpenClaim := { program := "qxb6600349a", sum := "566e5d788d9c8ddc331130e210d3cdfb81701ecf9b261126da439eac68da6739", func := "example.com/beforehand/beforehand/zzlaws_root_b1.FnScanNumberMinus", spec := "fnScanNumberMinus", apart := false }
def FnScanNumberMinusSaid : Prop := fnScanNumberMinusRow.holds Try.pinned (OpenSpec.ofChange fnScanNumberMinusSpec)

/-- ITS FALSE NEIGHBOUR: 'it returns false'. Refute it at one input. -/
def fnScanNumberMinusWrong : ChangeSpec := { name := "fnScanNumberMinus", fn := fun _ => fun
  | [d1, d2] => { results := [.lit (.bool false)], args := [d1, d2] }
  | _ => none }
def FnScanNumberMinusWrongFalsely : Prop := fnScanNumberMinusRow.holds Try.pinned (OpenSpec.ofChange fnScanNumberMinusWrong)

end Rows
end Go.Proofs.Qxb6600349a
