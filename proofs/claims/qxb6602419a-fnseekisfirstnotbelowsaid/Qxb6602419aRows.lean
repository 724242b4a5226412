/-
  No cell of these rows narrows 'for every input' (looked for: loops, veiled, ifaces, maps, wideKeys, modest, calm, conditions, laid).
  DERIVED. THE GIVEN ROWS OF THIS SEAT. 7 by the template 'for every input the law returns true; each argument reads behind the call as it read before'; 0 by the template 'total and deterministic' (their statements: Qxb6602419aTotals.lean).
  GIVEN WITH THE SEED: the statements are not yours to turn. If you find one false, say at which input.
  Laid BY PROGRAM, IN A SANDBOX (cutbox-rows.mjs): the forced cells as the released guide's own fill.sh prints them over the translation 9da3b825b8c30a4f… (all of the seat's roots in one cut). By AI agents, Wed Nov 11 2026. No macro, syntax, notation, axiom, sorry.
-/
import Derived.Test.Qxb6602419aChecked
import GoSem.Claim
import GoSem.ClaimJoined
import GoSem.ClaimMapViews
import Derived.JoinedTies
import Derived.KernelRfl
namespace Go.Proofs.Qxb6602419a
/- THE CELL 'sum', in the pinned program and in every row, IS THE sha256 OF THE DUMP (.gsa) THAT Qxb6602419aProg.lean LOADS. Nothing in Lean hashes anything: it is a label: what it is worth is what the hold of that sum in a sandbox is worth. -/
noncomputable def Try.pinned : Pinned := { name := "qxb6602419a", sum := "9da3b825b8c30a4f7f928f5ffb54b27a389ea3d2cff58a255b010faac029dfd7", checked := Try.checked }
namespace Rows
def none {H : Type} : Left H := { results := [], args := [] }

/-- 'zzlaws_root_b1.FnSortIDsIsStableSortOfPairs': WHATEVER THE INPUT: true; the input reads as it did. -/
def fnSortIDsIsStableSortOfPairsSpec : ChangeSpec := { name := "fnSortIDsIsStableSortOfPairs", fn := fun _ => fun
  | [d1, d2] => { results := [.lit (.bool true)], args := [d1, d2] }
  | _ => none }
def fnSortIDsIsStableSortOfPairsRow : OpenClaim := { program := "qxb6602419a", sum := "9da3b825b8c30a4f7f928f5ffb54b27a389ea3d2cff58a255b010faac029dfd7", func := "example.com/stridegate/stridegate/zzlaws_root_b1.FnSortIDsIsStableSortOfPairs", spec := "fnSortIDsIsStableSortOfPairs", apart := false }
def FnSortIDsIsStableSortOfPairsSaid : Prop := fnSortIDsIsStableSortOfPairsRow.holds Try.pinned (OpenSpec.ofChange fnSortIDsIsStableSortOfPairsSpec)

/-- ITS FALSE NEIGHBOUR: 'it returns false'. Refute it at one input. -/
def fnSortIDsIsStableSortOfPairsWrong : ChangeSpec := { name := "fnSortIDsIsStableSortOfPairs", fn := fun _ => fun
  | [d1, d2] => { results := [.lit (.bool false)], args := [d1, d2] }
  | _ => none }
def FnSortIDsIsStableSortOfPairsWrongFalsely : Prop := fnSortIDsIsStableSortOfPairsRow.holds Try.pinned (OpenSpec.ofChange fnSortIDsIsStableSortOfPairsWrong)

/-- 'zzlaws_root_b1.FnSortIDsTagsLeadBack': WHATEVER THE INPUT: true; the input reads as it did. -/
def fnSortIDsTagsLeadBackSpec : ChangeSpec := { name := "fnSortIDsTagsLeadBack", fn := fun _ => fun
  | [d] => { results := [.lit (.bool true)], args := [d] }
  | _ => none }
def fnSortIDsTagsLeadBackRow : OpenClaim := { program := "qxb6602419a", sum := "9da3b825b8c30a4f7f928f5ffb54b27a389ea3d2cff58a255b010faac029dfd7", func := "example.com/stridegate/stridegate/zzlaws_root_b1.FnSortIDsTagsLeadBack", spec := "fnSortIDsTagsLeadBack", apart := false }
def FnSortIDsTagsLeadBackSaid : Prop := fnSortIDsTagsLeadBackRow.holds Try.pinned (OpenSpec.ofChange fnSortIDsTagsLeadBackSpec)

/-- ITS FALSE NEIGHBOUR: 'it returns false'. Refute it at one input. -/
def fnSortIDsTagsLeadBackWrong : ChangeSpec := { name := "fnSortIDsTagsLeadBack", fn := fun _ => fun
  | [d] => { results := [.lit (.bool false)], args := [d] }
  | _ => none }
def FnSortIDsTagsLeadBackWrongFalsely : Prop := fnSortIDsTagsLeadBackRow.holds Try.pinned (OpenSpec.ofChange fnSortIDsTagsLeadBackWrong)

/-- 'zzlaws_root_b1.FnMergeTwoIsUnionWithGreaterCount': WHATEVER THE INPUT: true; the input reads as it did. -/
def fnMergeTwoIsUnionWithGreaterCountSpec : ChangeSpec := { name := "fnMergeTwoIsUnionWithGreaterCount", fn := fun _ => fun
  | [d1, d2] => { results := [.lit (.bool true)], args := [d1, d2] }
  | _ => none }
def fnMergeTwoIsUnionWithGreaterCountRow : OpenClaim := { program := "qxb6602419a", sum := "9da3b825b8c30a4f7f928f5ffb54b27a389ea3d2cff58a255b010faac029dfd7", func := "example.com/stridegate/stridegate/zzlaws_root_b1.FnMergeTwoIsUnionWithGreaterCount", spec := "fnMergeTwoIsUnionWithGreaterCount", apart := false }
def FnMergeTwoIsUnionWithGreaterCountSaid : Prop := fnMergeTwoIsUnionWithGreaterCountRow.holds Try.pinned (OpenSpec.ofChange fnMergeTwoIsUnionWithGreaterCountSpec)

/-- ITS FALSE NEIGHBOUR: 'it returns false'. Refute it at one input. -/
def fnMergeTwoIsUnionWithGreaterCountWrong : ChangeSpec := { name := "fnMergeTwoIsUnionWithGreaterCount", fn := fun _ => fun
  | [d1, d2] => { results := [.lit (.bool false)], args := [d1, d2] }
  | _ => none }
def FnMergeTwoIsUnionWithGreaterCountWrongFalsely : Prop := fnMergeTwoIsUnionWithGreaterCountRow.holds Try.pinned (OpenSpec.ofChange fnMergeTwoIsUnionWithGreaterCountWrong)

/-- 'zzlaws_root_b1.FnMergeTwoCommutes': WHATEVER THE INPUT: true; the input reads as it did. -/
def fnMergeTwoCommutesSpec : ChangeSpec := { name := "fnMergeTwoCommutes", fn := fun _ => fun
  | [d1, d2] => { results := [.lit (.bool true)], args := [d1, d2] }
  | _ => none }
def fnMergeTwoCommutesRow : OpenClaim := { program := "qxb6602419a", sum := "9da3b825b8c30a4f7f928f5ffb54b27a389ea3d2cff58a255b010faac029dfd7", func := "example.com/stridegate/stridegate/zzlaws_root_b1.FnMergeTwoCommutes", spec := "fnMergeTwoCommutes", apart := false }
def FnMergeTwoCommutesSaid : Prop := fnMergeTwoCommutesRow.holds Try.pinned (OpenSpec.ofChange fnMergeTwoCommutesSpec)

/-- ITS FALSE NEIGHBOUR: 'it returns false'. Refute it at one input. -/
def fnMergeTwoCommutesWrong : ChangeSpec := { name := "fnMergeTwoCommutes", fn := fun _ => fun
  | [d1, d2] => { results := [.lit (.bool false)], args := [d1, d2] }
  | _ => none }
def FnMergeTwoCommutesWrongFalsely : Prop := fnMergeTwoCommutesRow.holds Try.pinned (OpenSpec.ofChange fnMergeTwoCommutesWrong)

/-- 'zzlaws_root_b1.FnMergeTwoIdempotentWithEmptyAsUnit': WHATEVER THE INPUT: true; the input reads as it did. -/
def fnMergeTwoIdempotentWithEmptyAsUnitSpec : ChangeSpec := { name := "fnMergeTwoIdempotentWithEmptyAsUnit", fn := fun _ => fun
  | [d] => { results := [.lit (.bool true)], args := [d] }
  | _ => none }
def fnMergeTwoIdempotentWithEmptyAsUnitRow : OpenClaim := { program := "qxb6602419a", sum := "9da3b825b8c30a4f7f928f5ffb54b27a389ea3d2cff58a255b010faac029dfd7", func := "example.com/stridegate/stridegate/zzlaws_root_b1.FnMergeTwoIdempotentWithEmptyAsUnit", spec := "fnMergeTwoIdempotentWithEmptyAsUnit", apart := false }
def FnMergeTwoIdempotentWithEmptyAsUnitSaid : Prop := fnMergeTwoIdempotentWithEmptyAsUnitRow.holds Try.pinned (OpenSpec.ofChange fnMergeTwoIdempotentWithEmptyAsUnitSpec)

/-- ITS FALSE NEIGHBOUR: 'it returns false'. Refute it at one input. -/
def fnMergeTwoIdempotentWithEmptyAsUnitWrong : ChangeSpec := { name := "fnMergeTwoIdempotentWithEmptyAsUnit", fn := fun _ => fun
  | [d] => { results := [.lit (.bool false)], args := [d] }
  | _ => none }
def FnMergeTwoIdempotentWithEmptyAsUnitWrongFalsely : Prop := fnMergeTwoIdempotentWithEmptyAsUnitRow.holds Try.pinned (OpenSpec.ofChange fnMergeTwoIdempotentWithEmptyAsUnitWrong)

/-- 'zzlaws_root_b1.FnSeekIsFirstNotBelow': WHATEVER THE INPUT: true; the input reads as it did. -/
def fnSeekIsFirstNotBelowSpec : ChangeSpec := { name := "fnSeekIsFirstNotBelow", fn := fun _ => fun
  | [d1, d2, d3] => { results := [.lit (.bool true)], args := [d1, d2, d3] }
  | _ => none }
def fnSeekIsFirstNotBelowRow : OpenClaim := { program := "qxb6602419a", sum := "9da3b825b8c30a4f7f928f5ffb54b27a389ea3d2cff58a255b010faac029dfd7", func := "example.com/stridegate/stridegate/zzlaws_root_b1.FnSeekIsFirstNotBelow", spec := "fnSeekIsFirstNotBelow", apart := false }
def FnSeekIsFirstNotBelowSaid : Prop := fnSeekIsFirstNotBelowRow.holds Try.pinned (OpenSpec.ofChange fnSeekIsFirstNotBelowSpec)

/-- ITS FALSE NEIGHBOUR: 'it returns false'. Refute it at one input. -/
def fnSeekIsFirstNotBelowWrong : ChangeSpec := { name := "fnSeekIsFirstNotBelow", fn := fun _ => fun
  | [d1, d2, d3] => { results := [.lit (.bool false)], args := [d1, d2, d3] }
  | _ => none }
def FnSeekIsFirstNotBelowWrongFalsely : Prop := fnSeekIsFirstNotBelowRow.holds Try.pinned (OpenSpec.ofChange fnSeekIsFirstNotBelowWrong)

/-- 'zzlaws_root_b1.FnSeekChainsInAscendingOrder': WHATEVER THE INPUT: true; the input reads as it did. -/
def fnSeekChainsInAscendingOrderSpec : ChangeSpec := { name := "fnSeekChainsInAscendingOrder", fn := fun _ => fun
  | [d1, d2, d3, d4] => { results := [.lit (.bool true)], args := [d1, d2, d3, d4] }
  | _ => none }
def fnSeekChainsInAscendingOrderRow : OpenClaim := { program := "qxb6602419a", sum := "9da3b825b8c30a4f7f928f5ffb54b27a389ea3d2cff58a255b010faac029dfd7", func := "example.com/stridegate/stridegate/zzlaws_root_b1.FnSeekChainsInAscendingOrder", spec := "fnSeekChainsInAscendingOrder", apart := false }
def FnSeekChainsInAscendingOrderSaid : Prop := fnSeekChainsInAscendingOrderRow.holds Try.pinned (OpenSpec.ofChange fnSeekChainsInAscendingOrderSpec)

/-- ITS FALSE NEIGHBOUR: 'it returns false'. Refute it at one input. -/
def fnSeekChainsInAscendingOrderWrong : ChangeSpec := { name := "fnSeekChainsInAscendingOrder", fn := fun _ => fun
  | [d1, d2, d3, d4] => { results := [.lit (.bool false)], args := [d1, d2, d3, d4] }
  | _ => none }
def FnSeekChainsInAscendingOrderWrongFalsely : Prop := fnSeekChainsInAscendingOrderRow.holds Try.pinned (OpenSpec.ofChange fnSeekChainsInAscendingOrderWrong)

end Rows
end Go.Proofs.Qxb6602419a
