/-
  No cell of these rows narrows 'for every input' (looked for: loops, veiled, ifaces, maps, wideKeys, modest, calm, conditions, laid).
  DERIVED. THE GIVEN ROWS OF THIS SEAT. 7 by the template 'for every input the law returns true; each argument reads behind the call as it read before'; 0 by the template 'total and deterministic' (their statements: Qxb6000090aTotals.lean).
  GIVEN WITH THE SEED: the statements are not yours to turn. If you find one false, say at which input.
  Laid BY PROGRAM, IN A SANDBOX (cutbox-rows.mjs): the forced cells as the released guide's own fill.sh prints them over the translation e2ad1043851bea18… (all of the seat's roots in one cut). By AI agents, Wed Nov 11 2026. No macro, syntax, notation, axiom, sorry.
-/
import Derived.Test.Qxb6000090aChecked
import GoSem.Claim
import GoSem.ClaimJoined
import GoSem.ClaimMapViews
import Derived.JoinedTies
import Derived.KernelRfl
namespace Go.Proofs.Qxb6000090a
/- THE CELL 'sum', in the pinned program and in every row, IS THE sha256 OF THE DUMP (.gsa) THAT Qxb6000090aProg.lean LOADS. Nothing in Lean hashes anything: it is a label: what it is worth is what the hold of that sum in a sandbox is worth. -/
noncomputable def Try.pinned : Pinned := { name := "qxb6000090a", sum := "e2ad1043851bea183288abf629d35441fc4c0bd87e8dd8a848ef87d102f4df87", checked := Try.checked }
namespace Rows
def none {H : Type} : Left H := { results := [], args := [] }

/-- 'zzlaws_root_b1.FnLabelAllowsAgreesWithMapOfCombinedRights': WHATEVER THE INPUT: true; the input reads as it did. -/
def fnLabelAllowsAgreesWithMapOfCombinedRightsSpec : ChangeSpec := { name := "fnLabelAllowsAgreesWithMapOfCombinedRights", fn := fun _ => fun
  | [d1, d2, d3, d4, d5, d6] => { results := [.lit (.bool true)], args := [d1, d2, d3, d4, d5, d6] }
  | _ => none }
def fnLabelAllowsAgreesWithMapOfCombinedRightsRow : OpenClaim := { program := "qxb6000090a", sum := "e2ad1043851bea183288abf629d35441fc4c0bd87e8dd8a848ef87d102f4df87", func := "example.com/acecheck/acecheck/zzlaws_root_b1.FnLabelAllowsAgreesWithMapOfCombinedRights", spec := "fnLabelAllowsAgreesWithMapOfCombinedRights", apart := false }
def FnLabelAllowsAgreesWithMapOfCombinedRightsSaid : Prop := fnLabelAllowsAgreesWithMapOfCombinedRightsRow.holds Try.pinned (OpenSpec.ofChange fnLabelAllowsAgreesWithMapOfCombinedRightsSpec)

/-- ITS FALSE NEIGHBOUR: 'it returns false'. Refute it at one input. -/
def fnLabelAllowsAgreesWithMapOfCombinedRightsWrong : ChangeSpec := { name := "fnLabelAllowsAgreesWithMapOfCombinedRights", fn := fun _ => fun
  | [d1, d2, d3, d4, d5, d6] => { results := [.lit (.bool false)], args := [d1, d2, d3, d4, d5, d6] }
  | _ => none }
def FnLabelAllowsAgreesWithMapOfCombinedRightsWrongFalsely : Prop := fnLabelAllowsAgreesWithMapOfCombinedRightsRow.holds Try.pinned (OpenSpec.ofChange fnLabelAllowsAgreesWithMapOfCombinedRightsWrong)

/-- 'zzlaws_root_b1.FnLabelAllowsWithholdingMoreLeavesLess': WHATEVER THE INPUT: true; the input reads as it did. -/
def fnLabelAllowsWithholdingMoreLeavesLessSpec : ChangeSpec := { name := "fnLabelAllowsWithholdingMoreLeavesLess", fn := fun _ => fun
  | [d1, d2, d3, d4, d5, d6] => { results := [.lit (.bool true)], args := [d1, d2, d3, d4, d5, d6] }
  | _ => none }
def fnLabelAllowsWithholdingMoreLeavesLessRow : OpenClaim := { program := "qxb6000090a", sum := "e2ad1043851bea183288abf629d35441fc4c0bd87e8dd8a848ef87d102f4df87", func := "example.com/acecheck/acecheck/zzlaws_root_b1.FnLabelAllowsWithholdingMoreLeavesLess", spec := "fnLabelAllowsWithholdingMoreLeavesLess", apart := false }
def FnLabelAllowsWithholdingMoreLeavesLessSaid : Prop := fnLabelAllowsWithholdingMoreLeavesLessRow.holds Try.pinned (OpenSpec.ofChange fnLabelAllowsWithholdingMoreLeavesLessSpec)

/-- ITS FALSE NEIGHBOUR: 'it returns false'. Refute it at one input. -/
def fnLabelAllowsWithholdingMoreLeavesLessWrong : ChangeSpec := { name := "fnLabelAllowsWithholdingMoreLeavesLess", fn := fun _ => fun
  | [d1, d2, d3, d4, d5, d6] => { results := [.lit (.bool false)], args := [d1, d2, d3, d4, d5, d6] }
  | _ => none }
def FnLabelAllowsWithholdingMoreLeavesLessWrongFalsely : Prop := fnLabelAllowsWithholdingMoreLeavesLessRow.holds Try.pinned (OpenSpec.ofChange fnLabelAllowsWithholdingMoreLeavesLessWrong)

/-- 'zzlaws_root_b1.FnTruthOfRefusalsAndIndependence': WHATEVER THE INPUT: true; the input reads as it did. -/
def fnTruthOfRefusalsAndIndependenceSpec : ChangeSpec := { name := "fnTruthOfRefusalsAndIndependence", fn := fun _ => fun
  | [d1, d2, d3, d4, d5, d6, d7, d8] => { results := [.lit (.bool true)], args := [d1, d2, d3, d4, d5, d6, d7, d8] }
  | _ => none }
def fnTruthOfRefusalsAndIndependenceRow : OpenClaim := { program := "qxb6000090a", sum := "e2ad1043851bea183288abf629d35441fc4c0bd87e8dd8a848ef87d102f4df87", func := "example.com/acecheck/acecheck/zzlaws_root_b1.FnTruthOfRefusalsAndIndependence", spec := "fnTruthOfRefusalsAndIndependence", apart := false }
def FnTruthOfRefusalsAndIndependenceSaid : Prop := fnTruthOfRefusalsAndIndependenceRow.holds Try.pinned (OpenSpec.ofChange fnTruthOfRefusalsAndIndependenceSpec)

/-- ITS FALSE NEIGHBOUR: 'it returns false'. Refute it at one input. -/
def fnTruthOfRefusalsAndIndependenceWrong : ChangeSpec := { name := "fnTruthOfRefusalsAndIndependence", fn := fun _ => fun
  | [d1, d2, d3, d4, d5, d6, d7, d8] => { results := [.lit (.bool false)], args := [d1, d2, d3, d4, d5, d6, d7, d8] }
  | _ => none }
def FnTruthOfRefusalsAndIndependenceWrongFalsely : Prop := fnTruthOfRefusalsAndIndependenceRow.holds Try.pinned (OpenSpec.ofChange fnTruthOfRefusalsAndIndependenceWrong)

/-- 'zzlaws_root_b1.FnTruthOfAgreesAcrossKinds': WHATEVER THE INPUT: true; the input reads as it did. -/
def fnTruthOfAgreesAcrossKindsSpec : ChangeSpec := { name := "fnTruthOfAgreesAcrossKinds", fn := fun _ => fun
  | [d1, d2, d3] => { results := [.lit (.bool true)], args := [d1, d2, d3] }
  | _ => none }
def fnTruthOfAgreesAcrossKindsRow : OpenClaim := { program := "qxb6000090a", sum := "e2ad1043851bea183288abf629d35441fc4c0bd87e8dd8a848ef87d102f4df87", func := "example.com/acecheck/acecheck/zzlaws_root_b1.FnTruthOfAgreesAcrossKinds", spec := "fnTruthOfAgreesAcrossKinds", apart := false }
def FnTruthOfAgreesAcrossKindsSaid : Prop := fnTruthOfAgreesAcrossKindsRow.holds Try.pinned (OpenSpec.ofChange fnTruthOfAgreesAcrossKindsSpec)

/-- ITS FALSE NEIGHBOUR: 'it returns false'. Refute it at one input. -/
def fnTruthOfAgreesAcrossKindsWrong : ChangeSpec := { name := "fnTruthOfAgreesAcrossKinds", fn := fun _ => fun
  | [d1, d2, d3] => { results := [.lit (.bool false)], args := [d1, d2, d3] }
  | _ => none }
def FnTruthOfAgreesAcrossKindsWrongFalsely : Prop := fnTruthOfAgreesAcrossKindsRow.holds Try.pinned (OpenSpec.ofChange fnTruthOfAgreesAcrossKindsWrong)

/-- 'zzlaws_root_b1.FnAllowMatchesParentWalkModel': WHATEVER THE INPUT: true; the input reads as it did. -/
def fnAllowMatchesParentWalkModelSpec : ChangeSpec := { name := "fnAllowMatchesParentWalkModel", fn := fun _ => fun
  | [d1, d2, d3, d4, d5, d6, d7] => { results := [.lit (.bool true)], args := [d1, d2, d3, d4, d5, d6, d7] }
  | _ => none }
def fnAllowMatchesParentWalkModelRow : OpenClaim := { program := "qxb6000090a", sum := "e2ad1043851bea183288abf629d35441fc4c0bd87e8dd8a848ef87d102f4df87", func := "example.com/acecheck/acecheck/zzlaws_root_b1.FnAllowMatchesParentWalkModel", spec := "fnAllowMatchesParentWalkModel", apart := false }
def FnAllowMatchesParentWalkModelSaid : Prop := fnAllowMatchesParentWalkModelRow.holds Try.pinned (OpenSpec.ofChange fnAllowMatchesParentWalkModelSpec)

/-- ITS FALSE NEIGHBOUR: 'it returns false'. Refute it at one input. -/
def fnAllowMatchesParentWalkModelWrong : ChangeSpec := { name := "fnAllowMatchesParentWalkModel", fn := fun _ => fun
  | [d1, d2, d3, d4, d5, d6, d7] => { results := [.lit (.bool false)], args := [d1, d2, d3, d4, d5, d6, d7] }
  | _ => none }
def FnAllowMatchesParentWalkModelWrongFalsely : Prop := fnAllowMatchesParentWalkModelRow.holds Try.pinned (OpenSpec.ofChange fnAllowMatchesParentWalkModelWrong)

/-- 'zzlaws_root_b1.FnAllowKeepsDecisionsAndOnlyGrants': WHATEVER THE INPUT: true; the input reads as it did. -/
def fnAllowKeepsDecisionsAndOnlyGrantsSpec : ChangeSpec := { name := "fnAllowKeepsDecisionsAndOnlyGrants", fn := fun _ => fun
  | [d1, d2, d3, d4, d5, d6, d7] => { results := [.lit (.bool true)], args := [d1, d2, d3, d4, d5, d6, d7] }
  | _ => none }
def fnAllowKeepsDecisionsAndOnlyGrantsRow : OpenClaim := { program := "qxb6000090a", sum := "e2ad1043851bea183288abf629d35441fc4c0bd87e8dd8a848ef87d102f4df87", func := "example.com/acecheck/acecheck/zzlaws_root_b1.FnAllowKeepsDecisionsAndOnlyGrants", spec := "fnAllowKeepsDecisionsAndOnlyGrants", apart := false }
def FnAllowKeepsDecisionsAndOnlyGrantsSaid : Prop := fnAllowKeepsDecisionsAndOnlyGrantsRow.holds Try.pinned (OpenSpec.ofChange fnAllowKeepsDecisionsAndOnlyGrantsSpec)

/-- ITS FALSE NEIGHBOUR: 'it returns false'. Refute it at one input. -/
def fnAllowKeepsDecisionsAndOnlyGrantsWrong : ChangeSpec := { name := "fnAllowKeepsDecisionsAndOnlyGrants", fn := fun _ => fun
  | [d1, d2, d3, d4, d5, d6, d7] => { results := [.lit (.bool false)], args := [d1, d2, d3, d4, d5, d6, d7] }
  | _ => none }
def FnAllowKeepsDecisionsAndOnlyGrantsWrongFalsely : Prop := fnAllowKeepsDecisionsAndOnlyGrantsRow.holds Try.pinned (OpenSpec.ofChange fnAllowKeepsDecisionsAndOnlyGrantsWrong)

/-- 'zzlaws_root_b1.FnAllowIsIdempotent': WHATEVER THE INPUT: true; the input reads as it did. -/
def fnAllowIsIdempotentSpec : ChangeSpec := { name := "fnAllowIsIdempotent", fn := fun _ => fun
  | [d1, d2, d3, d4, d5, d6, d7] => { results := [.lit (.bool true)], args := [d1, d2, d3, d4, d5, d6, d7] }
  | _ => none }
def fnAllowIsIdempotentRow : OpenClaim := { program := "qxb6000090a", sum := "e2ad1043851bea183288abf629d35441fc4c0bd87e8dd8a848ef87d102f4df87", func := "example.com/acecheck/acecheck/zzlaws_root_b1.FnAllowIsIdempotent", spec := "fnAllowIsIdempotent", apart := false }
def FnAllowIsIdempotentSaid : Prop := fnAllowIsIdempotentRow.holds Try.pinned (OpenSpec.ofChange fnAllowIsIdempotentSpec)

/-- ITS FALSE NEIGHBOUR: 'it returns false'. Refute it at one input. -/
def fnAllowIsIdempotentWrong : ChangeSpec := { name := "fnAllowIsIdempotent", fn := fun _ => fun
  | [d1, d2, d3, d4, d5, d6, d7] => { results := [.lit (.bool false)], args := [d1, d2, d3, d4, d5, d6, d7] }
  | _ => none }
def FnAllowIsIdempotentWrongFalsely : Prop := fnAllowIsIdempotentRow.holds Try.pinned (OpenSpec.ofChange fnAllowIsIdempotentWrong)

end Rows
end Go.Proofs.Qxb6000090a
