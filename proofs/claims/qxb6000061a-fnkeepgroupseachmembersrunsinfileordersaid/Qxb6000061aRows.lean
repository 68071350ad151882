/-
  No cell of these rows narrows 'for every input' (looked for: loops, veiled, ifaces, maps, wideKeys, modest, calm, conditions, laid).
  DERIVED. THE GIVEN ROWS OF THIS SEAT. 6 by the template 'for every input the law returns true; each argument reads behind the call as it read before'; 0 by the template 'total and deterministic' (their statements: Qxb6000061aTotals.lean).
  GIVEN WITH THE SEED: the statements are not yours to turn. If you find one false, say at which input.
  Laid BY PROGRAM, IN A SANDBOX (cutbox-rows.mjs): the forced cells as the released guide's own fill.sh prints them over the translation f1d34d7e048b785e… (all of the seat's roots in one cut). By AI agents, Wed Nov 11 2026. No macro, syntax, notation, axiom, sorry.
-/
import Derived.Test.Qxb6000061aChecked
import GoSem.Claim
import GoSem.ClaimJoined
import GoSem.ClaimMapViews
import Derived.JoinedTies
import Derived.KernelRfl
namespace Go.Proofs.Qxb6000061a
/- THE CELL 'sum', in the pinned program and in every row, IS THE sha256 OF THE DUMP (.gsa) THAT Qxb6000061aProg.lean LOADS. Nothing in Lean hashes anything: it is a label: what it is worth is what the hold of that sum in a sandbox is worth. -/
noncomputable def Try.pinned : Pinned := { name := "qxb6000061a", sum := "f1d34d7e048b785e4df7f4c09d362374c41e7bcca8a28f2987e40a22a79c3ffc", checked := Try.checked }
namespace Rows
def none {H : Type} : Left H := { results := [], args := [] }

/-- 'zzlaws_pkg_records_b1.FnBeforeComposesAsTheEarlierMonth': WHATEVER THE INPUT: true; the input reads as it did. -/
def fnBeforeComposesAsTheEarlierMonthSpec : ChangeSpec := { name := "fnBeforeComposesAsTheEarlierMonth", fn := fun _ => fun
  | [d1, d2, d3, d4, d5] => { results := [.lit (.bool true)], args := [d1, d2, d3, d4, d5] }
  | _ => none }
def fnBeforeComposesAsTheEarlierMonthRow : OpenClaim := { program := "qxb6000061a", sum := "f1d34d7e048b785e4df7f4c09d362374c41e7bcca8a28f2987e40a22a79c3ffc", func := "example.com/vestwright/vestwright/zzlaws_pkg_records_b1.FnBeforeComposesAsTheEarlierMonth", spec := "fnBeforeComposesAsTheEarlierMonth", apart := false }
def FnBeforeComposesAsTheEarlierMonthSaid : Prop := fnBeforeComposesAsTheEarlierMonthRow.holds Try.pinned (OpenSpec.ofChange fnBeforeComposesAsTheEarlierMonthSpec)

/-- ITS FALSE NEIGHBOUR: 'it returns false'. Refute it at one input. -/
def fnBeforeComposesAsTheEarlierMonthWrong : ChangeSpec := { name := "fnBeforeComposesAsTheEarlierMonth", fn := fun _ => fun
  | [d1, d2, d3, d4, d5] => { results := [.lit (.bool false)], args := [d1, d2, d3, d4, d5] }
  | _ => none }
def FnBeforeComposesAsTheEarlierMonthWrongFalsely : Prop := fnBeforeComposesAsTheEarlierMonthRow.holds Try.pinned (OpenSpec.ofChange fnBeforeComposesAsTheEarlierMonthWrong)

/-- 'zzlaws_pkg_records_b1.FnKeepGroupsEachMembersRunsInFileOrder': WHATEVER THE INPUT: true; the input reads as it did. -/
def fnKeepGroupsEachMembersRunsInFileOrderSpec : ChangeSpec := { name := "fnKeepGroupsEachMembersRunsInFileOrder", fn := fun _ => fun
  | [d1, d2, d3, d4, d5, d6, d7, d8] => { results := [.lit (.bool true)], args := [d1, d2, d3, d4, d5, d6, d7, d8] }
  | _ => none }
def fnKeepGroupsEachMembersRunsInFileOrderRow : OpenClaim := { program := "qxb6000061a", sum := "f1d34d7e048b785e4df7f4c09d362374c41e7bcca8a28f2987e40a22a79c3ffc", func := "example.com/vestwright/vestwright/zzlaws_pkg_records_b1.FnKeepGroupsEachMembersRunsInFileOrder", spec := "fnKeepGroupsEachMembersRunsInFileOrder", apart := false }
def FnKeepGroupsEachMembersRunsInFileOrderSaid : Prop := fnKeepGroupsEachMembersRunsInFileOrderRow.holds Try.pinned (OpenSpec.ofChange fnKeepGroupsEachMembersRunsInFileOrderSpec)

/-- ITS FALSE NEIGHBOUR: 'it returns false'. Refute it at one input. -/
def fnKeepGroupsEachMembersRunsInFileOrderWrong : ChangeSpec := { name := "fnKeepGroupsEachMembersRunsInFileOrder", fn := fun _ => fun
  | [d1, d2, d3, d4, d5, d6, d7, d8] => { results := [.lit (.bool false)], args := [d1, d2, d3, d4, d5, d6, d7, d8] }
  | _ => none }
def FnKeepGroupsEachMembersRunsInFileOrderWrongFalsely : Prop := fnKeepGroupsEachMembersRunsInFileOrderRow.holds Try.pinned (OpenSpec.ofChange fnKeepGroupsEachMembersRunsInFileOrderWrong)

/-- 'zzlaws_pkg_records_b1.FnKeepSplittingAPartAtARunChangesNothing': WHATEVER THE INPUT: true; the input reads as it did. -/
def fnKeepSplittingAPartAtARunChangesNothingSpec : ChangeSpec := { name := "fnKeepSplittingAPartAtARunChangesNothing", fn := fun _ => fun
  | [d1, d2, d3, d4, d5, d6] => { results := [.lit (.bool true)], args := [d1, d2, d3, d4, d5, d6] }
  | _ => none }
def fnKeepSplittingAPartAtARunChangesNothingRow : OpenClaim := { program := "qxb6000061a", sum := "f1d34d7e048b785e4df7f4c09d362374c41e7bcca8a28f2987e40a22a79c3ffc", func := "example.com/vestwright/vestwright/zzlaws_pkg_records_b1.FnKeepSplittingAPartAtARunChangesNothing", spec := "fnKeepSplittingAPartAtARunChangesNothing", apart := false }
def FnKeepSplittingAPartAtARunChangesNothingSaid : Prop := fnKeepSplittingAPartAtARunChangesNothingRow.holds Try.pinned (OpenSpec.ofChange fnKeepSplittingAPartAtARunChangesNothingSpec)

/-- ITS FALSE NEIGHBOUR: 'it returns false'. Refute it at one input. -/
def fnKeepSplittingAPartAtARunChangesNothingWrong : ChangeSpec := { name := "fnKeepSplittingAPartAtARunChangesNothing", fn := fun _ => fun
  | [d1, d2, d3, d4, d5, d6] => { results := [.lit (.bool false)], args := [d1, d2, d3, d4, d5, d6] }
  | _ => none }
def FnKeepSplittingAPartAtARunChangesNothingWrongFalsely : Prop := fnKeepSplittingAPartAtARunChangesNothingRow.holds Try.pinned (OpenSpec.ofChange fnKeepSplittingAPartAtARunChangesNothingWrong)

/-- 'zzlaws_pkg_records_b1.FnRecordsEndIsLastBalancedBreak': WHATEVER THE INPUT: true; the input reads as it did. -/
def fnRecordsEndIsLastBalancedBreakSpec : ChangeSpec := { name := "fnRecordsEndIsLastBalancedBreak", fn := fun _ => fun
  | [d] => { results := [.lit (.bool true)], args := [d] }
  | _ => none }
def fnRecordsEndIsLastBalancedBreakRow : OpenClaim := { program := "qxb6000061a", sum := "f1d34d7e048b785e4df7f4c09d362374c41e7bcca8a28f2987e40a22a79c3ffc", func := "example.com/vestwright/vestwright/zzlaws_pkg_records_b1.FnRecordsEndIsLastBalancedBreak", spec := "fnRecordsEndIsLastBalancedBreak", inPlace := ["internal/bytealg.Count", "internal/bytealg.IndexByte", "internal/bytealg.Index"], named := ["internal/bytealg.MaxLen"], apart := false }
def FnRecordsEndIsLastBalancedBreakSaid : Prop := fnRecordsEndIsLastBalancedBreakRow.holds Try.pinned (OpenSpec.ofChange fnRecordsEndIsLastBalancedBreakSpec)

/-- ITS FALSE NEIGHBOUR: 'it returns false'. Refute it at one input. -/
def fnRecordsEndIsLastBalancedBreakWrong : ChangeSpec := { name := "fnRecordsEndIsLastBalancedBreak", fn := fun _ => fun
  | [d] => { results := [.lit (.bool false)], args := [d] }
  | _ => none }
def FnRecordsEndIsLastBalancedBreakWrongFalsely : Prop := fnRecordsEndIsLastBalancedBreakRow.holds Try.pinned (OpenSpec.ofChange fnRecordsEndIsLastBalancedBreakWrong)

/-- 'zzlaws_pkg_records_b1.FnRecordsEndIsIdempotent': WHATEVER THE INPUT: true; the input reads as it did. -/
def fnRecordsEndIsIdempotentSpec : ChangeSpec := { name := "fnRecordsEndIsIdempotent", fn := fun _ => fun
  | [d] => { results := [.lit (.bool true)], args := [d] }
  | _ => none }
def fnRecordsEndIsIdempotentRow : OpenClaim := { program := "qxb6000061a", sum := "f1d34d7e048b785e4df7f4c09d362374c41e7bcca8a28f2987e40a22a79c3ffc", func := "example.com/vestwright/vestwright/zzlaws_pkg_records_b1.FnRecordsEndIsIdempotent", spec := "fnRecordsEndIsIdempotent", inPlace := ["internal/bytealg.Count", "internal/bytealg.IndexByte", "internal/bytealg.Index"], named := ["internal/bytealg.MaxLen"], apart := false }
def FnRecordsEndIsIdempotentSaid : Prop := fnRecordsEndIsIdempotentRow.holds Try.pinned (OpenSpec.ofChange fnRecordsEndIsIdempotentSpec)

/-- ITS FALSE NEIGHBOUR: 'it returns false'. Refute it at one input. -/
def fnRecordsEndIsIdempotentWrong : ChangeSpec := { name := "fnRecordsEndIsIdempotent", fn := fun _ => fun
  | [d] => { results := [.lit (.bool false)], args := [d] }
  | _ => none }
def FnRecordsEndIsIdempotentWrongFalsely : Prop := fnRecordsEndIsIdempotentRow.holds Try.pinned (OpenSpec.ofChange fnRecordsEndIsIdempotentWrong)

/-- 'zzlaws_pkg_records_b1.FnRecordsEndGrowsWithMoreText': WHATEVER THE INPUT: true; the input reads as it did. -/
def fnRecordsEndGrowsWithMoreTextSpec : ChangeSpec := { name := "fnRecordsEndGrowsWithMoreText", fn := fun _ => fun
  | [d1, d2] => { results := [.lit (.bool true)], args := [d1, d2] }
  | _ => none }
def fnRecordsEndGrowsWithMoreTextRow : OpenClaim := { program := "qxb6000061a", sum := "f1d34d7e048b785e4df7f4c09d362374c41e7bcca8a28f2987e40a22a79c3ffc", func := "example.com/vestwright/vestwright/zzlaws_pkg_records_b1.FnRecordsEndGrowsWithMoreText", spec := "fnRecordsEndGrowsWithMoreText", inPlace := ["internal/bytealg.Count", "internal/bytealg.IndexByte", "internal/bytealg.Index"], named := ["internal/bytealg.MaxLen"], apart := false }
def FnRecordsEndGrowsWithMoreTextSaid : Prop := fnRecordsEndGrowsWithMoreTextRow.holds Try.pinned (OpenSpec.ofChange fnRecordsEndGrowsWithMoreTextSpec)

/-- ITS FALSE NEIGHBOUR: 'it returns false'. Refute it at one input. -/
def fnRecordsEndGrowsWithMoreTextWrong : ChangeSpec := { name := "fnRecordsEndGrowsWithMoreText", fn := fun _ => fun
  | [d1, d2] => { results := [.lit (.bool false)], args := [d1, d2] }
  | _ => none }
def FnRecordsEndGrowsWithMoreTextWrongFalsely : Prop := fnRecordsEndGrowsWithMoreTextRow.holds Try.pinned (OpenSpec.ofChange fnRecordsEndGrowsWithMoreTextWrong)

end Rows
end Go.Proofs.Qxb6000061a
