/-
  No cell of these rows narrows 'for every input' (looked for: loops, veiled, ifaces, maps, wideKeys, modest, calm, conditions, laid).
  DERIVED. THE GIVEN ROWS OF THIS SEAT. 4 by the template 'for every input the law returns true; each argument reads behind the call as it read before'; 0 by the template 'total and deterministic' (their statements: Qxb6003693aTotals.lean).
  GIVEN WITH THE SEED: the statements are not yours to turn. If you find one false, say at which input.
  Laid BY PROGRAM, IN A SANDBOX (cutbox-rows.mjs): the forced cells as the released guide's own fill.sh prints them over the translation 4ed988e132f562a2… (all of the seat's roots in one cut). By AI agents, Wed Nov 11 2026. No macro, syntax, notation, axiom, sorry.
-/
import Derived.Test.Qxb6003693aChecked
import GoSem.Claim
import GoSem.ClaimJoined
import GoSem.ClaimMapViews
import Derived.JoinedTies
import Derived.KernelRfl
namespace Go.Proofs.Qxb6003693a
/- THE CELL 'sum', in the pinned program and in every row, IS THE sha256 OF THE DUMP (.gsa) THAT Qxb6003693aProg.lean LOADS. Nothing in Lean hashes anything: it is a label: what it is worth is what the hold of that sum in a sandbox is worth. -/
noncomputable def Try.pinned : Pinned := { name := "qxb6003693a", sum := "4ed988e132f562a2edae1500109d6a7bba82715af26ca30b8210109c52252e61", checked := Try.checked }
namespace Rows
def none {H : Type} : Left H := { results := [], args := [] }

/-- 'zzlaws_root_g1.FnBatchRecordsGrowsWithBatchAndWindowShrinksWithRecordSize': WHATEVER THE INPUT: true; the input reads as it did. -/
def fnBatchRecordsGrowsWithBatchAndWindowShrinksWithRecordSizeSpec : ChangeSpec := { name := "fnBatchRecordsGrowsWithBatchAndWindowShrinksWithRecordSize", fn := fun _ => fun
  | [d1, d2, d3, d4, d5, d6, d7, d8] => { results := [.lit (.bool true)], args := [d1, d2, d3, d4, d5, d6, d7, d8] }
  | _ => none }
def fnBatchRecordsGrowsWithBatchAndWindowShrinksWithRecordSizeRow : OpenClaim := { program := "qxb6003693a", sum := "4ed988e132f562a2edae1500109d6a7bba82715af26ca30b8210109c52252e61", func := "example.com/shardwire/shardwire/zzlaws_root_g1.FnBatchRecordsGrowsWithBatchAndWindowShrinksWithRecordSize", spec := "fnBatchRecordsGrowsWithBatchAndWindowShrinksWithRecordSize", apart := false }
def FnBatchRecordsGrowsWithBatchAndWindowShrinksWithRecordSizeSaid : Prop := fnBatchRecordsGrowsWithBatchAndWindowShrinksWithRecordSizeRow.holds Try.pinned (OpenSpec.ofChange fnBatchRecordsGrowsWithBatchAndWindowShrinksWithRecordSizeSpec)

/-- ITS FALSE NEIGHBOUR: 'it returns false'. Refute it at one input. -/
def fnBatchRecordsGrowsWithBatchAndWindowShrinksWithRecordSizeWrong : ChangeSpec := { name := "fnBatchRecordsGrowsWithBatchAndWindowShrinksWithRecordSize", fn := fun _ => fun
  | [d1, d2, d3, d4, d5, d6, d7, d8] => { results := [.lit (.bool false)], args := [d1, d2, d3, d4, d5, d6, d7, d8] }
  | _ => none }
def FnBatchRecordsGrowsWithBatchAndWindowShrinksWithRecordSizeWrongFalsely : Prop := fnBatchRecordsGrowsWithBatchAndWindowShrinksWithRecordSizeRow.holds Try.pinned (OpenSpec.ofChange fnBatchRecordsGrowsWithBatchAndWindowShrinksWithRecordSizeWrong)

/-- 'zzlaws_root_g2.FnCheckRangeConvexNameFree': WHATEVER THE INPUT: true; the input reads as it did. -/
def fnCheckRangeConvexNameFreeSpec : ChangeSpec := { name := "fnCheckRangeConvexNameFree", fn := fun _ => fun
  | [d1, d2, d3, d4, d5, d6, d7] => { results := [.lit (.bool true)], args := [d1, d2, d3, d4, d5, d6, d7] }
  | _ => none }
def fnCheckRangeConvexNameFreeRow : OpenClaim := { program := "qxb6003693a", sum := "4ed988e132f562a2edae1500109d6a7bba82715af26ca30b8210109c52252e61", func := "example.com/shardwire/shardwire/zzlaws_root_g2.FnCheckRangeConvexNameFree", spec := "fnCheckRangeConvexNameFree", apart := false }
def FnCheckRangeConvexNameFreeSaid : Prop := fnCheckRangeConvexNameFreeRow.holds Try.pinned (OpenSpec.ofChange fnCheckRangeConvexNameFreeSpec)

/-- ITS FALSE NEIGHBOUR: 'it returns false'. Refute it at one input. -/
def fnCheckRangeConvexNameFreeWrong : ChangeSpec := { name := "fnCheckRangeConvexNameFree", fn := fun _ => fun
  | [d1, d2, d3, d4, d5, d6, d7] => { results := [.lit (.bool false)], args := [d1, d2, d3, d4, d5, d6, d7] }
  | _ => none }
def FnCheckRangeConvexNameFreeWrongFalsely : Prop := fnCheckRangeConvexNameFreeRow.holds Try.pinned (OpenSpec.ofChange fnCheckRangeConvexNameFreeWrong)

/-- 'zzlaws_root_g2.FnCheckRangeWidenAndEnds': WHATEVER THE INPUT: true; the input reads as it did. -/
def fnCheckRangeWidenAndEndsSpec : ChangeSpec := { name := "fnCheckRangeWidenAndEnds", fn := fun _ => fun
  | [d1, d2, d3, d4, d5] => { results := [.lit (.bool true)], args := [d1, d2, d3, d4, d5] }
  | _ => none }
def fnCheckRangeWidenAndEndsRow : OpenClaim := { program := "qxb6003693a", sum := "4ed988e132f562a2edae1500109d6a7bba82715af26ca30b8210109c52252e61", func := "example.com/shardwire/shardwire/zzlaws_root_g2.FnCheckRangeWidenAndEnds", spec := "fnCheckRangeWidenAndEnds", apart := false }
def FnCheckRangeWidenAndEndsSaid : Prop := fnCheckRangeWidenAndEndsRow.holds Try.pinned (OpenSpec.ofChange fnCheckRangeWidenAndEndsSpec)

/-- ITS FALSE NEIGHBOUR: 'it returns false'. Refute it at one input. -/
def fnCheckRangeWidenAndEndsWrong : ChangeSpec := { name := "fnCheckRangeWidenAndEnds", fn := fun _ => fun
  | [d1, d2, d3, d4, d5] => { results := [.lit (.bool false)], args := [d1, d2, d3, d4, d5] }
  | _ => none }
def FnCheckRangeWidenAndEndsWrongFalsely : Prop := fnCheckRangeWidenAndEndsRow.holds Try.pinned (OpenSpec.ofChange fnCheckRangeWidenAndEndsWrong)

/-- 'zzlaws_root_g2.FnValidateRangesAndBatchRecords': WHATEVER THE INPUT: true; the input reads as it did. -/
def fnValidateRangesAndBatchRecordsSpec : ChangeSpec := { name := "fnValidateRangesAndBatchRecords", fn := fun _ => fun
  | [d1, d2, d3, d4] => { results := [.lit (.bool true)], args := [d1, d2, d3, d4] }
  | _ => none }
def fnValidateRangesAndBatchRecordsRow : OpenClaim := { program := "qxb6003693a", sum := "4ed988e132f562a2edae1500109d6a7bba82715af26ca30b8210109c52252e61", func := "example.com/shardwire/shardwire/zzlaws_root_g2.FnValidateRangesAndBatchRecords", spec := "fnValidateRangesAndBatchRecords", apart := false }
def FnValidateRangesAndBatchRecordsSaid : Prop := fnValidateRangesAndBatchRecordsRow.holds Try.pinned (OpenSpec.ofChange fnValidateRangesAndBatchRecordsSpec)

/-- ITS FALSE NEIGHBOUR: 'it returns false'. Refute it at one input. -/
def fnValidateRangesAndBatchRecordsWrong : ChangeSpec := { name := "fnValidateRangesAndBatchRecords", fn := fun _ => fun
  | [d1, d2, d3, d4] => { results := [.lit (.bool false)], args := [d1, d2, d3, d4] }
  | _ => none }
def FnValidateRangesAndBatchRecordsWrongFalsely : Prop := fnValidateRangesAndBatchRecordsRow.holds Try.pinned (OpenSpec.ofChange fnValidateRangesAndBatchRecordsWrong)

end Rows
end Go.Proofs.Qxb6003693a
