/-
  No cell of these rows narrows 'for every input' (looked for: loops, veiled, ifaces, maps, wideKeys, modest, calm, conditions, laid).
  DERIVED. THE GIVEN ROWS OF THIS SEAT. 4 by the template 'for every input the law returns true; each argument reads behind the call as it read before'; 0 by the template 'total and deterministic' (their statements: Qxb6003728aTotals.lean).
  GIVEN WITH THE SEED: the statements are not yours to turn. If you find one false, say at which input.
  Laid BY PROGRAM, IN A SANDBOX (cutbox-rows.mjs): the forced cells as the released guide's own fill.sh prints them over the translation 207109f78177dd15… (all of the seat's roots in one cut). By AI agents, Wed Nov 11 2026. No macro, syntax, notation, axiom, sorry.
-/
import Derived.Test.Qxb6003728aChecked
import GoSem.Claim
import GoSem.ClaimJoined
import GoSem.ClaimMapViews
import Derived.JoinedTies
import Derived.KernelRfl
namespace Go.Proofs.Qxb6003728a
/- THE CELL 'sum', in the pinned program and in every row, IS THE sha256 OF THE DUMP (.gsa) THAT Qxb6003728aProg.lean LOADS. Nothing in Lean hashes anything: it is a label: what it is worth is what the hold of that sum in a sandbox is worth. -/
noncomputable def Try.pinned : Pinned := { name := "qxb6003728a", sum := "207109f78177dd15908716ff7e00b879f462165f955ad317c4b5aa196ac3f107", checked := Try.checked }
namespace Rows
def none {H : Type} : Left H := { results := [], args := [] }

/-- 'zzlaws_internal_page_g1.FnIsCleanPathMatchesSegmentGrammar': WHATEVER THE INPUT: true; the input reads as it did. -/
def fnIsCleanPathMatchesSegmentGrammarSpec : ChangeSpec := { name := "fnIsCleanPathMatchesSegmentGrammar", fn := fun _ => fun
  | [d] => { results := [.lit (.bool true)], args := [d] }
  | _ => none }
def fnIsCleanPathMatchesSegmentGrammarRow : OpenClaim := { program := "qxb6003728a", sum := "207109f78177dd15908716ff7e00b879f462165f955ad317c4b5aa196ac3f107", func := "example.com/cairn/cairn/zzlaws_internal_page_g1.FnIsCleanPathMatchesSegmentGrammar", spec := "fnIsCleanPathMatchesSegmentGrammar", apart := false }
def FnIsCleanPathMatchesSegmentGrammarSaid : Prop := fnIsCleanPathMatchesSegmentGrammarRow.holds Try.pinned (OpenSpec.ofChange fnIsCleanPathMatchesSegmentGrammarSpec)

/-- ITS FALSE NEIGHBOUR: 'it returns false'. Refute it at one input. -/
def fnIsCleanPathMatchesSegmentGrammarWrong : ChangeSpec := { name := "fnIsCleanPathMatchesSegmentGrammar", fn := fun _ => fun
  | [d] => { results := [.lit (.bool false)], args := [d] }
  | _ => none }
def FnIsCleanPathMatchesSegmentGrammarWrongFalsely : Prop := fnIsCleanPathMatchesSegmentGrammarRow.holds Try.pinned (OpenSpec.ofChange fnIsCleanPathMatchesSegmentGrammarWrong)

/-- 'zzlaws_internal_page_g1.FnIsCleanPathAgreesWithLinkable': WHATEVER THE INPUT: true; the input reads as it did. -/
def fnIsCleanPathAgreesWithLinkableSpec : ChangeSpec := { name := "fnIsCleanPathAgreesWithLinkable", fn := fun _ => fun
  | [d] => { results := [.lit (.bool true)], args := [d] }
  | _ => none }
def fnIsCleanPathAgreesWithLinkableRow : OpenClaim := { program := "qxb6003728a", sum := "207109f78177dd15908716ff7e00b879f462165f955ad317c4b5aa196ac3f107", func := "example.com/cairn/cairn/zzlaws_internal_page_g1.FnIsCleanPathAgreesWithLinkable", spec := "fnIsCleanPathAgreesWithLinkable", apart := false }
def FnIsCleanPathAgreesWithLinkableSaid : Prop := fnIsCleanPathAgreesWithLinkableRow.holds Try.pinned (OpenSpec.ofChange fnIsCleanPathAgreesWithLinkableSpec)

/-- ITS FALSE NEIGHBOUR: 'it returns false'. Refute it at one input. -/
def fnIsCleanPathAgreesWithLinkableWrong : ChangeSpec := { name := "fnIsCleanPathAgreesWithLinkable", fn := fun _ => fun
  | [d] => { results := [.lit (.bool false)], args := [d] }
  | _ => none }
def FnIsCleanPathAgreesWithLinkableWrongFalsely : Prop := fnIsCleanPathAgreesWithLinkableRow.holds Try.pinned (OpenSpec.ofChange fnIsCleanPathAgreesWithLinkableWrong)

/-- 'zzlaws_internal_page_g1.FnIsCleanPathTrailingSlashNeutral': WHATEVER THE INPUT: true; the input reads as it did. -/
def fnIsCleanPathTrailingSlashNeutralSpec : ChangeSpec := { name := "fnIsCleanPathTrailingSlashNeutral", fn := fun _ => fun
  | [d] => { results := [.lit (.bool true)], args := [d] }
  | _ => none }
def fnIsCleanPathTrailingSlashNeutralRow : OpenClaim := { program := "qxb6003728a", sum := "207109f78177dd15908716ff7e00b879f462165f955ad317c4b5aa196ac3f107", func := "example.com/cairn/cairn/zzlaws_internal_page_g1.FnIsCleanPathTrailingSlashNeutral", spec := "fnIsCleanPathTrailingSlashNeutral", apart := false }
def FnIsCleanPathTrailingSlashNeutralSaid : Prop := fnIsCleanPathTrailingSlashNeutralRow.holds Try.pinned (OpenSpec.ofChange fnIsCleanPathTrailingSlashNeutralSpec)

/-- ITS FALSE NEIGHBOUR: 'it returns false'. Refute it at one input. -/
def fnIsCleanPathTrailingSlashNeutralWrong : ChangeSpec := { name := "fnIsCleanPathTrailingSlashNeutral", fn := fun _ => fun
  | [d] => { results := [.lit (.bool false)], args := [d] }
  | _ => none }
def FnIsCleanPathTrailingSlashNeutralWrongFalsely : Prop := fnIsCleanPathTrailingSlashNeutralRow.holds Try.pinned (OpenSpec.ofChange fnIsCleanPathTrailingSlashNeutralWrong)

/-- 'zzlaws_internal_state_g1.FnNestingCountsTreeDepth': WHATEVER THE INPUT: true; the input reads as it did. -/
def fnNestingCountsTreeDepthSpec : ChangeSpec := { name := "fnNestingCountsTreeDepth", fn := fun _ => fun
  | [d1, d2] => { results := [.lit (.bool true)], args := [d1, d2] }
  | _ => none }
def fnNestingCountsTreeDepthRow : OpenClaim := { program := "qxb6003728a", sum := "207109f78177dd15908716ff7e00b879f462165f955ad317c4b5aa196ac3f107", func := "example.com/cairn/cairn/zzlaws_internal_state_g1.FnNestingCountsTreeDepth", spec := "fnNestingCountsTreeDepth", apart := false }
def FnNestingCountsTreeDepthSaid : Prop := fnNestingCountsTreeDepthRow.holds Try.pinned (OpenSpec.ofChange fnNestingCountsTreeDepthSpec)

/-- ITS FALSE NEIGHBOUR: 'it returns false'. Refute it at one input. -/
def fnNestingCountsTreeDepthWrong : ChangeSpec := { name := "fnNestingCountsTreeDepth", fn := fun _ => fun
  | [d1, d2] => { results := [.lit (.bool false)], args := [d1, d2] }
  | _ => none }
def FnNestingCountsTreeDepthWrongFalsely : Prop := fnNestingCountsTreeDepthRow.holds Try.pinned (OpenSpec.ofChange fnNestingCountsTreeDepthWrong)

end Rows
end Go.Proofs.Qxb6003728a
