/-
  No cell of these rows narrows 'for every input' (looked for: loops, veiled, ifaces, maps, wideKeys, modest, calm, conditions, laid).
  DERIVED. THE GIVEN ROWS OF THIS SEAT. 6 by the template 'for every input the law returns true; each argument reads behind the call as it read before'; 0 by the template 'total and deterministic' (their statements: Qxb6617189aTotals.lean).
  GIVEN WITH THE SEED: the statements are not yours to turn. If you find one false, say at which input.
  Laid BY PROGRAM, IN A SANDBOX (cutbox-rows.mjs): the forced cells as the released guide's own fill.sh prints them over the translation 8c28a6d688ee0147… (all of the seat's roots in one cut). By AI agents, Wed Nov 11 2026. No macro, syntax, notation, axiom, sorry.
-/
import Derived.Test.Qxb6617189aChecked
import GoSem.Claim
import GoSem.ClaimJoined
import GoSem.ClaimMapViews
import Derived.JoinedTies
import Derived.KernelRfl
namespace Go.Proofs.Qxb6617189a
/- THE CELL 'sum', in the pinned program and in every row, IS THE sha256 OF THE DUMP (.gsa) THAT Qxb6617189aProg.lean LOADS. Nothing in Lean hashes anything: it is a label: what it is worth is what the hold of that sum in a sandbox is worth. -/
noncomputable def Try.pinned : Pinned := { name := "qxb6617189a", sum := "8c28a6d688ee014734ee1c6cca5bc172903f98c0ee797310264f705162035f13", checked := Try.checked }
namespace Rows
def none {H : Type} : Left H := { results := [], args := [] }

/-- 'zzlaws_internal_schema_b1.FnCompareOpHoldsNegationConverseAndSign': WHATEVER THE INPUT: true; the input reads as it did. -/
def fnCompareOpHoldsNegationConverseAndSignSpec : ChangeSpec := { name := "fnCompareOpHoldsNegationConverseAndSign", fn := fun _ => fun
  | [d1, d2, d3] => { results := [.lit (.bool true)], args := [d1, d2, d3] }
  | _ => none }
def fnCompareOpHoldsNegationConverseAndSignRow : OpenClaim := { program := "qxb6617189a", sum := "8c28a6d688ee014734ee1c6cca5bc172903f98c0ee797310264f705162035f13", func := "example.com/epochwise/epochwise/zzlaws_internal_schema_b1.FnCompareOpHoldsNegationConverseAndSign", spec := "fnCompareOpHoldsNegationConverseAndSign", apart := false }
def FnCompareOpHoldsNegationConverseAndSignSaid : Prop := fnCompareOpHoldsNegationConverseAndSignRow.holds Try.pinned (OpenSpec.ofChange fnCompareOpHoldsNegationConverseAndSignSpec)

/-- ITS FALSE NEIGHBOUR: 'it returns false'. Refute it at one input. -/
def fnCompareOpHoldsNegationConverseAndSignWrong : ChangeSpec := { name := "fnCompareOpHoldsNegationConverseAndSign", fn := fun _ => fun
  | [d1, d2, d3] => { results := [.lit (.bool false)], args := [d1, d2, d3] }
  | _ => none }
def FnCompareOpHoldsNegationConverseAndSignWrongFalsely : Prop := fnCompareOpHoldsNegationConverseAndSignRow.holds Try.pinned (OpenSpec.ofChange fnCompareOpHoldsNegationConverseAndSignWrong)

/-- 'zzlaws_internal_schema_b1.FnCompareOpHoldsCountsAndCombinations': WHATEVER THE INPUT: true; the input reads as it did. -/
def fnCompareOpHoldsCountsAndCombinationsSpec : ChangeSpec := { name := "fnCompareOpHoldsCountsAndCombinations", fn := fun _ => fun
  | [d1, d2] => { results := [.lit (.bool true)], args := [d1, d2] }
  | _ => none }
def fnCompareOpHoldsCountsAndCombinationsRow : OpenClaim := { program := "qxb6617189a", sum := "8c28a6d688ee014734ee1c6cca5bc172903f98c0ee797310264f705162035f13", func := "example.com/epochwise/epochwise/zzlaws_internal_schema_b1.FnCompareOpHoldsCountsAndCombinations", spec := "fnCompareOpHoldsCountsAndCombinations", apart := false }
def FnCompareOpHoldsCountsAndCombinationsSaid : Prop := fnCompareOpHoldsCountsAndCombinationsRow.holds Try.pinned (OpenSpec.ofChange fnCompareOpHoldsCountsAndCombinationsSpec)

/-- ITS FALSE NEIGHBOUR: 'it returns false'. Refute it at one input. -/
def fnCompareOpHoldsCountsAndCombinationsWrong : ChangeSpec := { name := "fnCompareOpHoldsCountsAndCombinations", fn := fun _ => fun
  | [d1, d2] => { results := [.lit (.bool false)], args := [d1, d2] }
  | _ => none }
def FnCompareOpHoldsCountsAndCombinationsWrongFalsely : Prop := fnCompareOpHoldsCountsAndCombinationsRow.holds Try.pinned (OpenSpec.ofChange fnCompareOpHoldsCountsAndCombinationsWrong)

/-- 'zzlaws_internal_schema_b1.FnCompareStringBytesIsByteLexicographicAndAntisymmetric': WHATEVER THE INPUT: true; the input reads as it did. -/
def fnCompareStringBytesIsByteLexicographicAndAntisymmetricSpec : ChangeSpec := { name := "fnCompareStringBytesIsByteLexicographicAndAntisymmetric", fn := fun _ => fun
  | [d1, d2] => { results := [.lit (.bool true)], args := [d1, d2] }
  | _ => none }
def fnCompareStringBytesIsByteLexicographicAndAntisymmetricRow : OpenClaim := { program := "qxb6617189a", sum := "8c28a6d688ee014734ee1c6cca5bc172903f98c0ee797310264f705162035f13", func := "example.com/epochwise/epochwise/zzlaws_internal_schema_b1.FnCompareStringBytesIsByteLexicographicAndAntisymmetric", spec := "fnCompareStringBytesIsByteLexicographicAndAntisymmetric", apart := false }
def FnCompareStringBytesIsByteLexicographicAndAntisymmetricSaid : Prop := fnCompareStringBytesIsByteLexicographicAndAntisymmetricRow.holds Try.pinned (OpenSpec.ofChange fnCompareStringBytesIsByteLexicographicAndAntisymmetricSpec)

/-- ITS FALSE NEIGHBOUR: 'it returns false'. Refute it at one input. -/
def fnCompareStringBytesIsByteLexicographicAndAntisymmetricWrong : ChangeSpec := { name := "fnCompareStringBytesIsByteLexicographicAndAntisymmetric", fn := fun _ => fun
  | [d1, d2] => { results := [.lit (.bool false)], args := [d1, d2] }
  | _ => none }
def FnCompareStringBytesIsByteLexicographicAndAntisymmetricWrongFalsely : Prop := fnCompareStringBytesIsByteLexicographicAndAntisymmetricRow.holds Try.pinned (OpenSpec.ofChange fnCompareStringBytesIsByteLexicographicAndAntisymmetricWrong)

/-- 'zzlaws_internal_schema_b1.FnCompareStringBytesCommonPrefixCancels': WHATEVER THE INPUT: true; the input reads as it did. -/
def fnCompareStringBytesCommonPrefixCancelsSpec : ChangeSpec := { name := "fnCompareStringBytesCommonPrefixCancels", fn := fun _ => fun
  | [d1, d2, d3] => { results := [.lit (.bool true)], args := [d1, d2, d3] }
  | _ => none }
def fnCompareStringBytesCommonPrefixCancelsRow : OpenClaim := { program := "qxb6617189a", sum := "8c28a6d688ee014734ee1c6cca5bc172903f98c0ee797310264f705162035f13", func := "example.com/epochwise/epochwise/zzlaws_internal_schema_b1.FnCompareStringBytesCommonPrefixCancels", spec := "fnCompareStringBytesCommonPrefixCancels", apart := false }
def FnCompareStringBytesCommonPrefixCancelsSaid : Prop := fnCompareStringBytesCommonPrefixCancelsRow.holds Try.pinned (OpenSpec.ofChange fnCompareStringBytesCommonPrefixCancelsSpec)

/-- ITS FALSE NEIGHBOUR: 'it returns false'. Refute it at one input. -/
def fnCompareStringBytesCommonPrefixCancelsWrong : ChangeSpec := { name := "fnCompareStringBytesCommonPrefixCancels", fn := fun _ => fun
  | [d1, d2, d3] => { results := [.lit (.bool false)], args := [d1, d2, d3] }
  | _ => none }
def FnCompareStringBytesCommonPrefixCancelsWrongFalsely : Prop := fnCompareStringBytesCommonPrefixCancelsRow.holds Try.pinned (OpenSpec.ofChange fnCompareStringBytesCommonPrefixCancelsWrong)

/-- 'zzlaws_internal_schema_b1.FnCompareBoolsAntisymmetricFalseFirst': WHATEVER THE INPUT: true; the input reads as it did. -/
def fnCompareBoolsAntisymmetricFalseFirstSpec : ChangeSpec := { name := "fnCompareBoolsAntisymmetricFalseFirst", fn := fun _ => fun
  | [d1, d2] => { results := [.lit (.bool true)], args := [d1, d2] }
  | _ => none }
def fnCompareBoolsAntisymmetricFalseFirstRow : OpenClaim := { program := "qxb6617189a", sum := "8c28a6d688ee014734ee1c6cca5bc172903f98c0ee797310264f705162035f13", func := "example.com/epochwise/epochwise/zzlaws_internal_schema_b1.FnCompareBoolsAntisymmetricFalseFirst", spec := "fnCompareBoolsAntisymmetricFalseFirst", apart := false }
def FnCompareBoolsAntisymmetricFalseFirstSaid : Prop := fnCompareBoolsAntisymmetricFalseFirstRow.holds Try.pinned (OpenSpec.ofChange fnCompareBoolsAntisymmetricFalseFirstSpec)

/-- ITS FALSE NEIGHBOUR: 'it returns false'. Refute it at one input. -/
def fnCompareBoolsAntisymmetricFalseFirstWrong : ChangeSpec := { name := "fnCompareBoolsAntisymmetricFalseFirst", fn := fun _ => fun
  | [d1, d2] => { results := [.lit (.bool false)], args := [d1, d2] }
  | _ => none }
def FnCompareBoolsAntisymmetricFalseFirstWrongFalsely : Prop := fnCompareBoolsAntisymmetricFalseFirstRow.holds Try.pinned (OpenSpec.ofChange fnCompareBoolsAntisymmetricFalseFirstWrong)

/-- 'zzlaws_internal_schema_b1.FnCompareBoolsAgreesWithNames': WHATEVER THE INPUT: true; the input reads as it did. -/
def fnCompareBoolsAgreesWithNamesSpec : ChangeSpec := { name := "fnCompareBoolsAgreesWithNames", fn := fun _ => fun
  | [d1, d2] => { results := [.lit (.bool true)], args := [d1, d2] }
  | _ => none }
def fnCompareBoolsAgreesWithNamesRow : OpenClaim := { program := "qxb6617189a", sum := "8c28a6d688ee014734ee1c6cca5bc172903f98c0ee797310264f705162035f13", func := "example.com/epochwise/epochwise/zzlaws_internal_schema_b1.FnCompareBoolsAgreesWithNames", spec := "fnCompareBoolsAgreesWithNames", apart := false }
def FnCompareBoolsAgreesWithNamesSaid : Prop := fnCompareBoolsAgreesWithNamesRow.holds Try.pinned (OpenSpec.ofChange fnCompareBoolsAgreesWithNamesSpec)

/-- ITS FALSE NEIGHBOUR: 'it returns false'. Refute it at one input. -/
def fnCompareBoolsAgreesWithNamesWrong : ChangeSpec := { name := "fnCompareBoolsAgreesWithNames", fn := fun _ => fun
  | [d1, d2] => { results := [.lit (.bool false)], args := [d1, d2] }
  | _ => none }
def FnCompareBoolsAgreesWithNamesWrongFalsely : Prop := fnCompareBoolsAgreesWithNamesRow.holds Try.pinned (OpenSpec.ofChange fnCompareBoolsAgreesWithNamesWrong)

end Rows
end Go.Proofs.Qxb6617189a
