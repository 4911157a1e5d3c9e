/-
  No cell of these rows narrows 'for every input' (looked for: loops, veiled, ifaces, maps, wideKeys, modest, calm, conditions, laid).
  DERIVED. THE GIVEN ROWS OF THIS SEAT. 9 by the template 'for every input the law returns true; each argument reads behind the call as it read before'; 0 by the template 'total and deterministic' (their statements: Qxb6600021aTotals.lean).
  GIVEN WITH THE SEED: the statements are not yours to turn. If you find one false, say at which input.
  Laid BY PROGRAM, IN A SANDBOX (cutbox-rows.mjs): the forced cells as the released guide's own fill.sh prints them over the translation 4f60818bfbbc7e0b… (all of the seat's roots in one cut). By AI agents, Wed Nov 11 2026. No macro, syntax, notation, axiom, sorry.
-/
import Derived.Test.Qxb6600021aChecked
import GoSem.Claim
import GoSem.ClaimJoined
import GoSem.ClaimMapViews
import Derived.JoinedTies
import Derived.KernelRfl
namespace Go.Proofs.Qxb6600021a
/- THE CELL 'sum', in the pinned program and in every row, IS THE sha256 OF THE DUMP (.gsa) THAT Qxb6600021aProg.lean LOADS. Nothing in Lean hashes anything: it is a label: what it is worth is what the hold of that sum in a sandbox is worth. -/
noncomputable def Try.pinned : Pinned := { name := "qxb6600021a", sum := "4f60818bfbbc7e0b35de24f36a9407ef7aef90f387fed238a9c36f8b1d5d3603", checked := Try.checked }
namespace Rows
def none {H : Type} : Left H := { results := [], args := [] }

/-- 'zzlaws_internal_search_b1.FnUnionIsTheMergeOfBoth': WHATEVER THE INPUT: true; the input reads as it did. -/
def fnUnionIsTheMergeOfBothSpec : ChangeSpec := { name := "fnUnionIsTheMergeOfBoth", fn := fun _ => fun
  | [d1, d2] => { results := [.lit (.bool true)], args := [d1, d2] }
  | _ => none }
def fnUnionIsTheMergeOfBothRow : OpenClaim := { program := "qxb6600021a", sum := "4f60818bfbbc7e0b35de24f36a9407ef7aef90f387fed238a9c36f8b1d5d3603", func := "example.com/policy-prover/policy-prover/zzlaws_internal_search_b1.FnUnionIsTheMergeOfBoth", spec := "fnUnionIsTheMergeOfBoth", plainKeys := false, apart := false }
def FnUnionIsTheMergeOfBothSaid : Prop := fnUnionIsTheMergeOfBothRow.holds Try.pinned (OpenSpec.ofChange fnUnionIsTheMergeOfBothSpec)

/-- ITS FALSE NEIGHBOUR: 'it returns false'. Refute it at one input. -/
def fnUnionIsTheMergeOfBothWrong : ChangeSpec := { name := "fnUnionIsTheMergeOfBoth", fn := fun _ => fun
  | [d1, d2] => { results := [.lit (.bool false)], args := [d1, d2] }
  | _ => none }
def FnUnionIsTheMergeOfBothWrongFalsely : Prop := fnUnionIsTheMergeOfBothRow.holds Try.pinned (OpenSpec.ofChange fnUnionIsTheMergeOfBothWrong)

/-- 'zzlaws_internal_search_b1.FnUnionCommutesAndAbsorbs': WHATEVER THE INPUT: true; the input reads as it did. -/
def fnUnionCommutesAndAbsorbsSpec : ChangeSpec := { name := "fnUnionCommutesAndAbsorbs", fn := fun _ => fun
  | [d1, d2] => { results := [.lit (.bool true)], args := [d1, d2] }
  | _ => none }
def fnUnionCommutesAndAbsorbsRow : OpenClaim := { program := "qxb6600021a", sum := "4f60818bfbbc7e0b35de24f36a9407ef7aef90f387fed238a9c36f8b1d5d3603", func := "example.com/policy-prover/policy-prover/zzlaws_internal_search_b1.FnUnionCommutesAndAbsorbs", spec := "fnUnionCommutesAndAbsorbs", plainKeys := false, apart := false }
def FnUnionCommutesAndAbsorbsSaid : Prop := fnUnionCommutesAndAbsorbsRow.holds Try.pinned (OpenSpec.ofChange fnUnionCommutesAndAbsorbsSpec)

/-- ITS FALSE NEIGHBOUR: 'it returns false'. Refute it at one input. -/
def fnUnionCommutesAndAbsorbsWrong : ChangeSpec := { name := "fnUnionCommutesAndAbsorbs", fn := fun _ => fun
  | [d1, d2] => { results := [.lit (.bool false)], args := [d1, d2] }
  | _ => none }
def FnUnionCommutesAndAbsorbsWrongFalsely : Prop := fnUnionCommutesAndAbsorbsRow.holds Try.pinned (OpenSpec.ofChange fnUnionCommutesAndAbsorbsWrong)

/-- 'zzlaws_internal_search_b1.FnUnionIsAssociative': WHATEVER THE INPUT: true; the input reads as it did. -/
def fnUnionIsAssociativeSpec : ChangeSpec := { name := "fnUnionIsAssociative", fn := fun _ => fun
  | [d1, d2, d3] => { results := [.lit (.bool true)], args := [d1, d2, d3] }
  | _ => none }
def fnUnionIsAssociativeRow : OpenClaim := { program := "qxb6600021a", sum := "4f60818bfbbc7e0b35de24f36a9407ef7aef90f387fed238a9c36f8b1d5d3603", func := "example.com/policy-prover/policy-prover/zzlaws_internal_search_b1.FnUnionIsAssociative", spec := "fnUnionIsAssociative", plainKeys := false, apart := false }
def FnUnionIsAssociativeSaid : Prop := fnUnionIsAssociativeRow.holds Try.pinned (OpenSpec.ofChange fnUnionIsAssociativeSpec)

/-- ITS FALSE NEIGHBOUR: 'it returns false'. Refute it at one input. -/
def fnUnionIsAssociativeWrong : ChangeSpec := { name := "fnUnionIsAssociative", fn := fun _ => fun
  | [d1, d2, d3] => { results := [.lit (.bool false)], args := [d1, d2, d3] }
  | _ => none }
def FnUnionIsAssociativeWrongFalsely : Prop := fnUnionIsAssociativeRow.holds Try.pinned (OpenSpec.ofChange fnUnionIsAssociativeWrong)

/-- 'zzlaws_internal_search_b1.FnAddAgreesWithOrModel': WHATEVER THE INPUT: true; the input reads as it did. -/
def fnAddAgreesWithOrModelSpec : ChangeSpec := { name := "fnAddAgreesWithOrModel", fn := fun _ => fun
  | [d1, d2, d3, d4] => { results := [.lit (.bool true)], args := [d1, d2, d3, d4] }
  | _ => none }
def fnAddAgreesWithOrModelRow : OpenClaim := { program := "qxb6600021a", sum := "4f60818bfbbc7e0b35de24f36a9407ef7aef90f387fed238a9c36f8b1d5d3603", func := "example.com/policy-prover/policy-prover/zzlaws_internal_search_b1.FnAddAgreesWithOrModel", spec := "fnAddAgreesWithOrModel", plainKeys := false, apart := false }
def FnAddAgreesWithOrModelSaid : Prop := fnAddAgreesWithOrModelRow.holds Try.pinned (OpenSpec.ofChange fnAddAgreesWithOrModelSpec)

/-- ITS FALSE NEIGHBOUR: 'it returns false'. Refute it at one input. -/
def fnAddAgreesWithOrModelWrong : ChangeSpec := { name := "fnAddAgreesWithOrModel", fn := fun _ => fun
  | [d1, d2, d3, d4] => { results := [.lit (.bool false)], args := [d1, d2, d3, d4] }
  | _ => none }
def FnAddAgreesWithOrModelWrongFalsely : Prop := fnAddAgreesWithOrModelRow.holds Try.pinned (OpenSpec.ofChange fnAddAgreesWithOrModelWrong)

/-- 'zzlaws_internal_search_b1.FnAddNeverWritesSharedWords': WHATEVER THE INPUT: true; the input reads as it did. -/
def fnAddNeverWritesSharedWordsSpec : ChangeSpec := { name := "fnAddNeverWritesSharedWords", fn := fun _ => fun
  | [d1, d2, d3] => { results := [.lit (.bool true)], args := [d1, d2, d3] }
  | _ => none }
def fnAddNeverWritesSharedWordsRow : OpenClaim := { program := "qxb6600021a", sum := "4f60818bfbbc7e0b35de24f36a9407ef7aef90f387fed238a9c36f8b1d5d3603", func := "example.com/policy-prover/policy-prover/zzlaws_internal_search_b1.FnAddNeverWritesSharedWords", spec := "fnAddNeverWritesSharedWords", plainKeys := false, apart := false }
def FnAddNeverWritesSharedWordsSaid : Prop := fnAddNeverWritesSharedWordsRow.holds Try.pinned (OpenSpec.ofChange fnAddNeverWritesSharedWordsSpec)

/-- ITS FALSE NEIGHBOUR: 'it returns false'. Refute it at one input. -/
def fnAddNeverWritesSharedWordsWrong : ChangeSpec := { name := "fnAddNeverWritesSharedWords", fn := fun _ => fun
  | [d1, d2, d3] => { results := [.lit (.bool false)], args := [d1, d2, d3] }
  | _ => none }
def FnAddNeverWritesSharedWordsWrongFalsely : Prop := fnAddNeverWritesSharedWordsRow.holds Try.pinned (OpenSpec.ofChange fnAddNeverWritesSharedWordsWrong)

/-- 'zzlaws_internal_search_b1.FnAddKeepsItsShape': WHATEVER THE INPUT: true; the input reads as it did. -/
def fnAddKeepsItsShapeSpec : ChangeSpec := { name := "fnAddKeepsItsShape", fn := fun _ => fun
  | [d1, d2, d3, d4] => { results := [.lit (.bool true)], args := [d1, d2, d3, d4] }
  | _ => none }
def fnAddKeepsItsShapeRow : OpenClaim := { program := "qxb6600021a", sum := "4f60818bfbbc7e0b35de24f36a9407ef7aef90f387fed238a9c36f8b1d5d3603", func := "example.com/policy-prover/policy-prover/zzlaws_internal_search_b1.FnAddKeepsItsShape", spec := "fnAddKeepsItsShape", plainKeys := false, apart := false }
def FnAddKeepsItsShapeSaid : Prop := fnAddKeepsItsShapeRow.holds Try.pinned (OpenSpec.ofChange fnAddKeepsItsShapeSpec)

/-- ITS FALSE NEIGHBOUR: 'it returns false'. Refute it at one input. -/
def fnAddKeepsItsShapeWrong : ChangeSpec := { name := "fnAddKeepsItsShape", fn := fun _ => fun
  | [d1, d2, d3, d4] => { results := [.lit (.bool false)], args := [d1, d2, d3, d4] }
  | _ => none }
def FnAddKeepsItsShapeWrongFalsely : Prop := fnAddKeepsItsShapeRow.holds Try.pinned (OpenSpec.ofChange fnAddKeepsItsShapeWrong)

/-- 'zzlaws_internal_search_b1.FnPathEndsAtThePromisedPair': WHATEVER THE INPUT: true; the input reads as it did. -/
def fnPathEndsAtThePromisedPairSpec : ChangeSpec := { name := "fnPathEndsAtThePromisedPair", fn := fun _ => fun
  | [d1, d2, d3, d4, d5] => { results := [.lit (.bool true)], args := [d1, d2, d3, d4, d5] }
  | _ => none }
def fnPathEndsAtThePromisedPairRow : OpenClaim := { program := "qxb6600021a", sum := "4f60818bfbbc7e0b35de24f36a9407ef7aef90f387fed238a9c36f8b1d5d3603", func := "example.com/policy-prover/policy-prover/zzlaws_internal_search_b1.FnPathEndsAtThePromisedPair", spec := "fnPathEndsAtThePromisedPair", plainKeys := false, apart := false }
def FnPathEndsAtThePromisedPairSaid : Prop := fnPathEndsAtThePromisedPairRow.holds Try.pinned (OpenSpec.ofChange fnPathEndsAtThePromisedPairSpec)

/-- ITS FALSE NEIGHBOUR: 'it returns false'. Refute it at one input. -/
def fnPathEndsAtThePromisedPairWrong : ChangeSpec := { name := "fnPathEndsAtThePromisedPair", fn := fun _ => fun
  | [d1, d2, d3, d4, d5] => { results := [.lit (.bool false)], args := [d1, d2, d3, d4, d5] }
  | _ => none }
def FnPathEndsAtThePromisedPairWrongFalsely : Prop := fnPathEndsAtThePromisedPairRow.holds Try.pinned (OpenSpec.ofChange fnPathEndsAtThePromisedPairWrong)

/-- 'zzlaws_internal_search_b1.FnPathIsAWalkBackToTheStart': WHATEVER THE INPUT: true; the input reads as it did. -/
def fnPathIsAWalkBackToTheStartSpec : ChangeSpec := { name := "fnPathIsAWalkBackToTheStart", fn := fun _ => fun
  | [d1, d2, d3, d4, d5] => { results := [.lit (.bool true)], args := [d1, d2, d3, d4, d5] }
  | _ => none }
def fnPathIsAWalkBackToTheStartRow : OpenClaim := { program := "qxb6600021a", sum := "4f60818bfbbc7e0b35de24f36a9407ef7aef90f387fed238a9c36f8b1d5d3603", func := "example.com/policy-prover/policy-prover/zzlaws_internal_search_b1.FnPathIsAWalkBackToTheStart", spec := "fnPathIsAWalkBackToTheStart", plainKeys := false, apart := false }
def FnPathIsAWalkBackToTheStartSaid : Prop := fnPathIsAWalkBackToTheStartRow.holds Try.pinned (OpenSpec.ofChange fnPathIsAWalkBackToTheStartSpec)

/-- ITS FALSE NEIGHBOUR: 'it returns false'. Refute it at one input. -/
def fnPathIsAWalkBackToTheStartWrong : ChangeSpec := { name := "fnPathIsAWalkBackToTheStart", fn := fun _ => fun
  | [d1, d2, d3, d4, d5] => { results := [.lit (.bool false)], args := [d1, d2, d3, d4, d5] }
  | _ => none }
def FnPathIsAWalkBackToTheStartWrongFalsely : Prop := fnPathIsAWalkBackToTheStartRow.holds Try.pinned (OpenSpec.ofChange fnPathIsAWalkBackToTheStartWrong)

/-- 'zzlaws_internal_search_b1.FnPathPrefixOnlyWidens': WHATEVER THE INPUT: true; the input reads as it did. -/
def fnPathPrefixOnlyWidensSpec : ChangeSpec := { name := "fnPathPrefixOnlyWidens", fn := fun _ => fun
  | [d1, d2, d3, d4] => { results := [.lit (.bool true)], args := [d1, d2, d3, d4] }
  | _ => none }
def fnPathPrefixOnlyWidensRow : OpenClaim := { program := "qxb6600021a", sum := "4f60818bfbbc7e0b35de24f36a9407ef7aef90f387fed238a9c36f8b1d5d3603", func := "example.com/policy-prover/policy-prover/zzlaws_internal_search_b1.FnPathPrefixOnlyWidens", spec := "fnPathPrefixOnlyWidens", plainKeys := false, apart := false }
def FnPathPrefixOnlyWidensSaid : Prop := fnPathPrefixOnlyWidensRow.holds Try.pinned (OpenSpec.ofChange fnPathPrefixOnlyWidensSpec)

/-- ITS FALSE NEIGHBOUR: 'it returns false'. Refute it at one input. -/
def fnPathPrefixOnlyWidensWrong : ChangeSpec := { name := "fnPathPrefixOnlyWidens", fn := fun _ => fun
  | [d1, d2, d3, d4] => { results := [.lit (.bool false)], args := [d1, d2, d3, d4] }
  | _ => none }
def FnPathPrefixOnlyWidensWrongFalsely : Prop := fnPathPrefixOnlyWidensRow.holds Try.pinned (OpenSpec.ofChange fnPathPrefixOnlyWidensWrong)

end Rows
end Go.Proofs.Qxb6600021a
