/-
  No cell of these rows narrows 'for every input' (looked for: loops, veiled, ifaces, maps, wideKeys, modest, calm, conditions, laid).
  DERIVED. THE GIVEN ROWS OF THIS SEAT. 5 by the template 'for every input the law returns true; each argument reads behind the call as it read before'; 0 by the template 'total and deterministic' (their statements: Qxb6602493aTotals.lean).
  GIVEN WITH THE SEED: the statements are not yours to turn. If you find one false, say at which input.
  Laid BY PROGRAM, IN A SANDBOX (cutbox-rows.mjs): the forced cells as the released guide's own fill.sh prints them over the translation 79afdef42bfe0ba9… (all of the seat's roots in one cut). By AI agents, Wed Nov 11 2026. No macro, syntax, notation, axiom, sorry.
-/
import Derived.Test.Qxb6602493aChecked
import GoSem.Claim
import GoSem.ClaimJoined
import GoSem.ClaimMapViews
import Derived.JoinedTies
import Derived.KernelRfl
namespace Go.Proofs.Qxb6602493a
/- THE CELL 'sum', in the pinned program and in every row, IS THE sha256 OF THE DUMP (.gsa) THAT Qxb6602493aProg.lean LOADS. Nothing in Lean hashes anything: it is a label: what it is worth is what the hold of that sum in a sandbox is worth. -/
noncomputable def Try.pinned : Pinned := { name := "qxb6602493a", sum := "79afdef42bfe0ba964b72d63c64c579d9860ae1b34fec1133b30dccb2f19668e", checked := Try.checked }
namespace Rows
def none {H : Type} : Left H := { results := [], args := [] }

/-- 'zzlaws_internal_xmldoc_b1.FnIsEncNameSplitsAtAnyPoint': WHATEVER THE INPUT: true; the input reads as it did. -/
def fnIsEncNameSplitsAtAnyPointSpec : ChangeSpec := { name := "fnIsEncNameSplitsAtAnyPoint", fn := fun _ => fun
  | [d1, d2] => { results := [.lit (.bool true)], args := [d1, d2] }
  | _ => none }
def fnIsEncNameSplitsAtAnyPointRow : OpenClaim := { program := "qxb6602493a", sum := "79afdef42bfe0ba964b72d63c64c579d9860ae1b34fec1133b30dccb2f19668e", func := "example.com/signpost/signpost/zzlaws_internal_xmldoc_b1.FnIsEncNameSplitsAtAnyPoint", spec := "fnIsEncNameSplitsAtAnyPoint", apart := false }
def FnIsEncNameSplitsAtAnyPointSaid : Prop := fnIsEncNameSplitsAtAnyPointRow.holds Try.pinned (OpenSpec.ofChange fnIsEncNameSplitsAtAnyPointSpec)

/-- ITS FALSE NEIGHBOUR: 'it returns false'. Refute it at one input. -/
def fnIsEncNameSplitsAtAnyPointWrong : ChangeSpec := { name := "fnIsEncNameSplitsAtAnyPoint", fn := fun _ => fun
  | [d1, d2] => { results := [.lit (.bool false)], args := [d1, d2] }
  | _ => none }
def FnIsEncNameSplitsAtAnyPointWrongFalsely : Prop := fnIsEncNameSplitsAtAnyPointRow.holds Try.pinned (OpenSpec.ofChange fnIsEncNameSplitsAtAnyPointWrong)

/-- 'zzlaws_internal_xmldoc_b1.FnGivenTwiceIsFirstRepeat': WHATEVER THE INPUT: true; the input reads as it did. -/
def fnGivenTwiceIsFirstRepeatSpec : ChangeSpec := { name := "fnGivenTwiceIsFirstRepeat", fn := fun _ => fun
  | [d1, d2] => { results := [.lit (.bool true)], args := [d1, d2] }
  | _ => none }
def fnGivenTwiceIsFirstRepeatRow : OpenClaim := { program := "qxb6602493a", sum := "79afdef42bfe0ba964b72d63c64c579d9860ae1b34fec1133b30dccb2f19668e", func := "example.com/signpost/signpost/zzlaws_internal_xmldoc_b1.FnGivenTwiceIsFirstRepeat", spec := "fnGivenTwiceIsFirstRepeat", apart := false }
def FnGivenTwiceIsFirstRepeatSaid : Prop := fnGivenTwiceIsFirstRepeatRow.holds Try.pinned (OpenSpec.ofChange fnGivenTwiceIsFirstRepeatSpec)

/-- ITS FALSE NEIGHBOUR: 'it returns false'. Refute it at one input. -/
def fnGivenTwiceIsFirstRepeatWrong : ChangeSpec := { name := "fnGivenTwiceIsFirstRepeat", fn := fun _ => fun
  | [d1, d2] => { results := [.lit (.bool false)], args := [d1, d2] }
  | _ => none }
def FnGivenTwiceIsFirstRepeatWrongFalsely : Prop := fnGivenTwiceIsFirstRepeatRow.holds Try.pinned (OpenSpec.ofChange fnGivenTwiceIsFirstRepeatWrong)

/-- 'zzlaws_internal_xmldoc_b1.FnGivenTwiceOrderFree': WHATEVER THE INPUT: true; the input reads as it did. -/
def fnGivenTwiceOrderFreeSpec : ChangeSpec := { name := "fnGivenTwiceOrderFree", fn := fun _ => fun
  | [d1, d2] => { results := [.lit (.bool true)], args := [d1, d2] }
  | _ => none }
def fnGivenTwiceOrderFreeRow : OpenClaim := { program := "qxb6602493a", sum := "79afdef42bfe0ba964b72d63c64c579d9860ae1b34fec1133b30dccb2f19668e", func := "example.com/signpost/signpost/zzlaws_internal_xmldoc_b1.FnGivenTwiceOrderFree", spec := "fnGivenTwiceOrderFree", apart := false }
def FnGivenTwiceOrderFreeSaid : Prop := fnGivenTwiceOrderFreeRow.holds Try.pinned (OpenSpec.ofChange fnGivenTwiceOrderFreeSpec)

/-- ITS FALSE NEIGHBOUR: 'it returns false'. Refute it at one input. -/
def fnGivenTwiceOrderFreeWrong : ChangeSpec := { name := "fnGivenTwiceOrderFree", fn := fun _ => fun
  | [d1, d2] => { results := [.lit (.bool false)], args := [d1, d2] }
  | _ => none }
def FnGivenTwiceOrderFreeWrongFalsely : Prop := fnGivenTwiceOrderFreeRow.holds Try.pinned (OpenSpec.ofChange fnGivenTwiceOrderFreeWrong)

/-- 'zzlaws_internal_xmldoc_b1.FnDescribeCaseTable': WHATEVER THE INPUT: true; the input reads as it did. -/
def fnDescribeCaseTableSpec : ChangeSpec := { name := "fnDescribeCaseTable", fn := fun _ => fun
  | [d1, d2, d3, d4] => { results := [.lit (.bool true)], args := [d1, d2, d3, d4] }
  | _ => none }
def fnDescribeCaseTableRow : OpenClaim := { program := "qxb6602493a", sum := "79afdef42bfe0ba964b72d63c64c579d9860ae1b34fec1133b30dccb2f19668e", func := "example.com/signpost/signpost/zzlaws_internal_xmldoc_b1.FnDescribeCaseTable", spec := "fnDescribeCaseTable", apart := false }
def FnDescribeCaseTableSaid : Prop := fnDescribeCaseTableRow.holds Try.pinned (OpenSpec.ofChange fnDescribeCaseTableSpec)

/-- ITS FALSE NEIGHBOUR: 'it returns false'. Refute it at one input. -/
def fnDescribeCaseTableWrong : ChangeSpec := { name := "fnDescribeCaseTable", fn := fun _ => fun
  | [d1, d2, d3, d4] => { results := [.lit (.bool false)], args := [d1, d2, d3, d4] }
  | _ => none }
def FnDescribeCaseTableWrongFalsely : Prop := fnDescribeCaseTableRow.holds Try.pinned (OpenSpec.ofChange fnDescribeCaseTableWrong)

/-- 'zzlaws_internal_xmldoc_b1.FnDescribeSeesOnlyNextNineBytes': WHATEVER THE INPUT: true; the input reads as it did. -/
def fnDescribeSeesOnlyNextNineBytesSpec : ChangeSpec := { name := "fnDescribeSeesOnlyNextNineBytes", fn := fun _ => fun
  | [d1, d2, d3, d4, d5, d6, d7] => { results := [.lit (.bool true)], args := [d1, d2, d3, d4, d5, d6, d7] }
  | _ => none }
def fnDescribeSeesOnlyNextNineBytesRow : OpenClaim := { program := "qxb6602493a", sum := "79afdef42bfe0ba964b72d63c64c579d9860ae1b34fec1133b30dccb2f19668e", func := "example.com/signpost/signpost/zzlaws_internal_xmldoc_b1.FnDescribeSeesOnlyNextNineBytes", spec := "fnDescribeSeesOnlyNextNineBytes", apart := false }
def FnDescribeSeesOnlyNextNineBytesSaid : Prop := fnDescribeSeesOnlyNextNineBytesRow.holds Try.pinned (OpenSpec.ofChange fnDescribeSeesOnlyNextNineBytesSpec)

/-- ITS FALSE NEIGHBOUR: 'it returns false'. Refute it at one input. -/
def fnDescribeSeesOnlyNextNineBytesWrong : ChangeSpec := { name := "fnDescribeSeesOnlyNextNineBytes", fn := fun _ => fun
  | [d1, d2, d3, d4, d5, d6, d7] => { results := [.lit (.bool false)], args := [d1, d2, d3, d4, d5, d6, d7] }
  | _ => none }
def FnDescribeSeesOnlyNextNineBytesWrongFalsely : Prop := fnDescribeSeesOnlyNextNineBytesRow.holds Try.pinned (OpenSpec.ofChange fnDescribeSeesOnlyNextNineBytesWrong)

end Rows
end Go.Proofs.Qxb6602493a
