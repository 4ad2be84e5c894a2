/-
  No cell of these rows narrows 'for every input' (looked for: loops, veiled, ifaces, maps, wideKeys, modest, calm, conditions, laid).
  DERIVED. THE GIVEN ROWS OF THIS SEAT. 3 by the template 'for every input the law returns true; each argument reads behind the call as it read before'; 0 by the template 'total and deterministic' (their statements: Qxb6614596aTotals.lean).
  GIVEN WITH THE SEED: the statements are not yours to turn. If you find one false, say at which input.
  Laid BY PROGRAM, IN A SANDBOX (cutbox-rows.mjs): the forced cells as the released guide's own fill.sh prints them over the translation 502909087436fc5e… (all of the seat's roots in one cut). By AI agents, Wed Nov 11 2026. No macro, syntax, notation, axiom, sorry.
-/
import Derived.Test.Qxb6614596aChecked
import GoSem.Claim
import GoSem.ClaimJoined
import GoSem.ClaimMapViews
import Derived.JoinedTies
import Derived.KernelRfl
namespace Go.Proofs.Qxb6614596a
/- THE CELL 'sum', in the pinned program and in every row, IS THE sha256 OF THE DUMP (.gsa) THAT Qxb6614596aProg.lean LOADS. Nothing in Lean hashes anything: it is a label: what it is worth is what the hold of that sum in a sandbox is worth. -/
noncomputable def Try.pinned : Pinned := { name := "qxb6614596a", sum := "502909087436fc5ecce6ac33547feb419a9ff6097d0d0feb590f49c7933d25bf", checked := Try.checked }
namespace Rows
def none {H : Type} : Left H := { results := [], args := [] }

/-- 'zzlaws_extract_b1.FnHasOnlyItsFieldCounts': WHATEVER THE INPUT: true; the input reads as it did. -/
def fnHasOnlyItsFieldCountsSpec : ChangeSpec := { name := "fnHasOnlyItsFieldCounts", fn := fun _ => fun
  | [d1, d2, d3, d4, d5, d6] => { results := [.lit (.bool true)], args := [d1, d2, d3, d4, d5, d6] }
  | _ => none }
def fnHasOnlyItsFieldCountsRow : OpenClaim := { program := "qxb6614596a", sum := "502909087436fc5ecce6ac33547feb419a9ff6097d0d0feb590f49c7933d25bf", func := "example.com/sizelint/sizelint/zzlaws_extract_b1.FnHasOnlyItsFieldCounts", spec := "fnHasOnlyItsFieldCounts", unfollowed := true, recurses := true, apart := false }
def FnHasOnlyItsFieldCountsSaid : Prop := fnHasOnlyItsFieldCountsRow.holds Try.pinned (OpenSpec.ofChange fnHasOnlyItsFieldCountsSpec)

/-- ITS FALSE NEIGHBOUR: 'it returns false'. Refute it at one input. -/
def fnHasOnlyItsFieldCountsWrong : ChangeSpec := { name := "fnHasOnlyItsFieldCounts", fn := fun _ => fun
  | [d1, d2, d3, d4, d5, d6] => { results := [.lit (.bool false)], args := [d1, d2, d3, d4, d5, d6] }
  | _ => none }
def FnHasOnlyItsFieldCountsWrongFalsely : Prop := fnHasOnlyItsFieldCountsRow.holds Try.pinned (OpenSpec.ofChange fnHasOnlyItsFieldCountsWrong)

/-- 'zzlaws_extract_b1.FnHasRaisedOkNeverLowers': WHATEVER THE INPUT: true; the input reads as it did. -/
def fnHasRaisedOkNeverLowersSpec : ChangeSpec := { name := "fnHasRaisedOkNeverLowers", fn := fun _ => fun
  | [d1, d2, d3, d4, d5] => { results := [.lit (.bool true)], args := [d1, d2, d3, d4, d5] }
  | _ => none }
def fnHasRaisedOkNeverLowersRow : OpenClaim := { program := "qxb6614596a", sum := "502909087436fc5ecce6ac33547feb419a9ff6097d0d0feb590f49c7933d25bf", func := "example.com/sizelint/sizelint/zzlaws_extract_b1.FnHasRaisedOkNeverLowers", spec := "fnHasRaisedOkNeverLowers", unfollowed := true, recurses := true, apart := false }
def FnHasRaisedOkNeverLowersSaid : Prop := fnHasRaisedOkNeverLowersRow.holds Try.pinned (OpenSpec.ofChange fnHasRaisedOkNeverLowersSpec)

/-- ITS FALSE NEIGHBOUR: 'it returns false'. Refute it at one input. -/
def fnHasRaisedOkNeverLowersWrong : ChangeSpec := { name := "fnHasRaisedOkNeverLowers", fn := fun _ => fun
  | [d1, d2, d3, d4, d5] => { results := [.lit (.bool false)], args := [d1, d2, d3, d4, d5] }
  | _ => none }
def FnHasRaisedOkNeverLowersWrongFalsely : Prop := fnHasRaisedOkNeverLowersRow.holds Try.pinned (OpenSpec.ofChange fnHasRaisedOkNeverLowersWrong)

/-- 'zzlaws_extract_b1.FnLessReadsNoEndNorReplaced': WHATEVER THE INPUT: true; the input reads as it did. -/
def fnLessReadsNoEndNorReplacedSpec : ChangeSpec := { name := "fnLessReadsNoEndNorReplaced", fn := fun _ => fun
  | [d1, d2, d3] => { results := [.lit (.bool true)], args := [d1, d2, d3] }
  | _ => none }
def fnLessReadsNoEndNorReplacedRow : OpenClaim := { program := "qxb6614596a", sum := "502909087436fc5ecce6ac33547feb419a9ff6097d0d0feb590f49c7933d25bf", func := "example.com/sizelint/sizelint/zzlaws_extract_b1.FnLessReadsNoEndNorReplaced", spec := "fnLessReadsNoEndNorReplaced", apart := false }
def FnLessReadsNoEndNorReplacedSaid : Prop := fnLessReadsNoEndNorReplacedRow.holds Try.pinned (OpenSpec.ofChange fnLessReadsNoEndNorReplacedSpec)

/-- ITS FALSE NEIGHBOUR: 'it returns false'. Refute it at one input. -/
def fnLessReadsNoEndNorReplacedWrong : ChangeSpec := { name := "fnLessReadsNoEndNorReplaced", fn := fun _ => fun
  | [d1, d2, d3] => { results := [.lit (.bool false)], args := [d1, d2, d3] }
  | _ => none }
def FnLessReadsNoEndNorReplacedWrongFalsely : Prop := fnLessReadsNoEndNorReplacedRow.holds Try.pinned (OpenSpec.ofChange fnLessReadsNoEndNorReplacedWrong)

end Rows
end Go.Proofs.Qxb6614596a
