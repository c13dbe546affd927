/-
  No cell of these rows narrows 'for every input' (looked for: loops, veiled, ifaces, maps, wideKeys, modest, calm, conditions, laid).
  DERIVED. THE GIVEN ROWS OF THIS SEAT. 4 by the template 'for every input the law returns true; each argument reads behind the call as it read before'; 0 by the template 'total and deterministic' (their statements: Qxb6003698aTotals.lean).
  GIVEN WITH THE SEED: the statements are not yours to turn. If you find one false, say at which input.
  Laid BY PROGRAM, IN A SANDBOX (cutbox-rows.mjs): the forced cells as the released guide's own fill.sh prints them over the translation 7e893aa2b8b47bff… (all of the seat's roots in one cut). By AI agents, Wed Nov 11 2026. No macro, syntax, notation, axiom, sorry.
-/
import Derived.Test.Qxb6003698aChecked
import GoSem.Claim
import GoSem.ClaimJoined
import GoSem.ClaimMapViews
import Derived.JoinedTies
import Derived.KernelRfl
namespace Go.Proofs.Qxb6003698a
/- THE CELL 'sum', in the pinned program and in every row, IS THE sha256 OF THE DUMP (.gsa) THAT Qxb6003698aProg.lean LOADS. Nothing in Lean hashes anything: it is a label: what it is worth is what the hold of that sum in a sandbox is worth. -/
noncomputable def Try.pinned : Pinned := { name := "qxb6003698a", sum := "7e893aa2b8b47bff3b13d1e6814fc8138af664876331837d86dbccdd524fd842", checked := Try.checked }
namespace Rows
def none {H : Type} : Left H := { results := [], args := [] }

/-- 'zzlaws_internal_report_g1.FnHeldStringKeepsFirstBytes': WHATEVER THE INPUT: true; the input reads as it did. -/
def fnHeldStringKeepsFirstBytesSpec : ChangeSpec := { name := "fnHeldStringKeepsFirstBytes", fn := fun _ => fun
  | [d1, d2] => { results := [.lit (.bool true)], args := [d1, d2] }
  | _ => none }
def fnHeldStringKeepsFirstBytesRow : OpenClaim := { program := "qxb6003698a", sum := "7e893aa2b8b47bff3b13d1e6814fc8138af664876331837d86dbccdd524fd842", func := "example.com/phaseline/phaseline/zzlaws_internal_report_g1.FnHeldStringKeepsFirstBytes", spec := "fnHeldStringKeepsFirstBytes", apart := false }
def FnHeldStringKeepsFirstBytesSaid : Prop := fnHeldStringKeepsFirstBytesRow.holds Try.pinned (OpenSpec.ofChange fnHeldStringKeepsFirstBytesSpec)

/-- ITS FALSE NEIGHBOUR: 'it returns false'. Refute it at one input. -/
def fnHeldStringKeepsFirstBytesWrong : ChangeSpec := { name := "fnHeldStringKeepsFirstBytes", fn := fun _ => fun
  | [d1, d2] => { results := [.lit (.bool false)], args := [d1, d2] }
  | _ => none }
def FnHeldStringKeepsFirstBytesWrongFalsely : Prop := fnHeldStringKeepsFirstBytesRow.holds Try.pinned (OpenSpec.ofChange fnHeldStringKeepsFirstBytesWrong)

/-- 'zzlaws_internal_report_g1.FnIDRunNormalizes': WHATEVER THE INPUT: true; the input reads as it did. -/
def fnIDRunNormalizesSpec : ChangeSpec := { name := "fnIDRunNormalizes", fn := fun _ => fun
  | [d1, d2] => { results := [.lit (.bool true)], args := [d1, d2] }
  | _ => none }
def fnIDRunNormalizesRow : OpenClaim := { program := "qxb6003698a", sum := "7e893aa2b8b47bff3b13d1e6814fc8138af664876331837d86dbccdd524fd842", func := "example.com/phaseline/phaseline/zzlaws_internal_report_g1.FnIDRunNormalizes", spec := "fnIDRunNormalizes", apart := false }
def FnIDRunNormalizesSaid : Prop := fnIDRunNormalizesRow.holds Try.pinned (OpenSpec.ofChange fnIDRunNormalizesSpec)

/-- ITS FALSE NEIGHBOUR: 'it returns false'. Refute it at one input. -/
def fnIDRunNormalizesWrong : ChangeSpec := { name := "fnIDRunNormalizes", fn := fun _ => fun
  | [d1, d2] => { results := [.lit (.bool false)], args := [d1, d2] }
  | _ => none }
def FnIDRunNormalizesWrongFalsely : Prop := fnIDRunNormalizesRow.holds Try.pinned (OpenSpec.ofChange fnIDRunNormalizesWrong)

/-- 'zzlaws_internal_report_g2.FnTakeFoldsOneByOneAsAtOnce': WHATEVER THE INPUT: true; the input reads as it did. -/
def fnTakeFoldsOneByOneAsAtOnceSpec : ChangeSpec := { name := "fnTakeFoldsOneByOneAsAtOnce", fn := fun _ => fun
  | [d1, d2, d3, d4, d5, d6] => { results := [.lit (.bool true)], args := [d1, d2, d3, d4, d5, d6] }
  | _ => none }
def fnTakeFoldsOneByOneAsAtOnceRow : OpenClaim := { program := "qxb6003698a", sum := "7e893aa2b8b47bff3b13d1e6814fc8138af664876331837d86dbccdd524fd842", func := "example.com/phaseline/phaseline/zzlaws_internal_report_g2.FnTakeFoldsOneByOneAsAtOnce", spec := "fnTakeFoldsOneByOneAsAtOnce", apart := false }
def FnTakeFoldsOneByOneAsAtOnceSaid : Prop := fnTakeFoldsOneByOneAsAtOnceRow.holds Try.pinned (OpenSpec.ofChange fnTakeFoldsOneByOneAsAtOnceSpec)

/-- ITS FALSE NEIGHBOUR: 'it returns false'. Refute it at one input. -/
def fnTakeFoldsOneByOneAsAtOnceWrong : ChangeSpec := { name := "fnTakeFoldsOneByOneAsAtOnce", fn := fun _ => fun
  | [d1, d2, d3, d4, d5, d6] => { results := [.lit (.bool false)], args := [d1, d2, d3, d4, d5, d6] }
  | _ => none }
def FnTakeFoldsOneByOneAsAtOnceWrongFalsely : Prop := fnTakeFoldsOneByOneAsAtOnceRow.holds Try.pinned (OpenSpec.ofChange fnTakeFoldsOneByOneAsAtOnceWrong)

/-- 'zzlaws_internal_report_g2.FnScanKeepsFirstHeldBytesOfWhatItIsTold': WHATEVER THE INPUT: true; the input reads as it did. -/
def fnScanKeepsFirstHeldBytesOfWhatItIsToldSpec : ChangeSpec := { name := "fnScanKeepsFirstHeldBytesOfWhatItIsTold", fn := fun _ => fun
  | [d1, d2] => { results := [.lit (.bool true)], args := [d1, d2] }
  | _ => none }
def fnScanKeepsFirstHeldBytesOfWhatItIsToldRow : OpenClaim := { program := "qxb6003698a", sum := "7e893aa2b8b47bff3b13d1e6814fc8138af664876331837d86dbccdd524fd842", func := "example.com/phaseline/phaseline/zzlaws_internal_report_g2.FnScanKeepsFirstHeldBytesOfWhatItIsTold", spec := "fnScanKeepsFirstHeldBytesOfWhatItIsTold", apart := false }
def FnScanKeepsFirstHeldBytesOfWhatItIsToldSaid : Prop := fnScanKeepsFirstHeldBytesOfWhatItIsToldRow.holds Try.pinned (OpenSpec.ofChange fnScanKeepsFirstHeldBytesOfWhatItIsToldSpec)

/-- ITS FALSE NEIGHBOUR: 'it returns false'. Refute it at one input. -/
def fnScanKeepsFirstHeldBytesOfWhatItIsToldWrong : ChangeSpec := { name := "fnScanKeepsFirstHeldBytesOfWhatItIsTold", fn := fun _ => fun
  | [d1, d2] => { results := [.lit (.bool false)], args := [d1, d2] }
  | _ => none }
def FnScanKeepsFirstHeldBytesOfWhatItIsToldWrongFalsely : Prop := fnScanKeepsFirstHeldBytesOfWhatItIsToldRow.holds Try.pinned (OpenSpec.ofChange fnScanKeepsFirstHeldBytesOfWhatItIsToldWrong)

end Rows
end Go.Proofs.Qxb6003698a
