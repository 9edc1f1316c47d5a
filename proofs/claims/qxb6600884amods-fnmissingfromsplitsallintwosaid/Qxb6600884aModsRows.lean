/-
  No cell of these rows narrows 'for every input' (looked for: loops, veiled, ifaces, maps, wideKeys, modest, calm, conditions, laid).
  DERIVED. THE GIVEN ROWS OF THIS SEAT. 5 by the template 'for every input the law returns true; each argument reads behind the call as it read before'; 0 by the template 'total and deterministic' (their statements: Qxb6600884aModsTotals.lean).
  GIVEN WITH THE SEED: the statements are not yours to turn. If you find one false, say at which input.
  Laid BY PROGRAM, IN A SANDBOX (cutbox-rows.mjs): the forced cells as the released guide's own fill.sh prints them over the translation 95c2e19452c17f16… (all of the seat's roots in one cut). By AI agents, Wed Nov 11 2026. No macro, syntax, notation, axiom, sorry.
-/
import Derived.Test.Qxb6600884aModsChecked
import GoSem.Claim
import GoSem.ClaimJoined
import GoSem.ClaimMapViews
import Derived.JoinedTies
import Derived.KernelRfl
namespace Go.Proofs.Qxb6600884aMods
/- THE CELL 'sum', in the pinned program and in every row, IS THE sha256 OF THE DUMP (.gsa) THAT Qxb6600884aModsProg.lean LOADS. Nothing in Lean hashes anything: it is a label: what it is worth is what the hold of that sum in a sandbox is worth. -/
noncomputable def Trym.pinned : Pinned := { name := "qxb6600884amods", sum := "95c2e19452c17f16894b7f315793e44e57212289640a033f6b5ff1775566192a", checked := Trym.checked }
namespace Rows
def none {H : Type} : Left H := { results := [], args := [] }

/-- 'zzlaws_internal_prefix_b1.FnMissingFromSplitsAllInTwo': WHATEVER THE INPUT: true; the input reads as it did. -/
def fnMissingFromSplitsAllInTwoSpec : ChangeSpec := { name := "fnMissingFromSplitsAllInTwo", fn := fun _ => fun
  | [d1, d2, d3, d4] => { results := [.lit (.bool true)], args := [d1, d2, d3, d4] }
  | _ => none }
def fnMissingFromSplitsAllInTwoRow : OpenClaim := { program := "qxb6600884amods", sum := "95c2e19452c17f16894b7f315793e44e57212289640a033f6b5ff1775566192a", func := "example.com/holdfast/holdfast/zzlaws_internal_prefix_b1.FnMissingFromSplitsAllInTwo", spec := "fnMissingFromSplitsAllInTwo", plainKeys := false, make := .lifted ["publicsums"], apart := false }
def FnMissingFromSplitsAllInTwoSaid : Prop := fnMissingFromSplitsAllInTwoRow.holds Trym.pinned (OpenSpec.ofChange fnMissingFromSplitsAllInTwoSpec)

/-- ITS FALSE NEIGHBOUR: 'it returns false'. Refute it at one input. -/
def fnMissingFromSplitsAllInTwoWrong : ChangeSpec := { name := "fnMissingFromSplitsAllInTwo", fn := fun _ => fun
  | [d1, d2, d3, d4] => { results := [.lit (.bool false)], args := [d1, d2, d3, d4] }
  | _ => none }
def FnMissingFromSplitsAllInTwoWrongFalsely : Prop := fnMissingFromSplitsAllInTwoRow.holds Trym.pinned (OpenSpec.ofChange fnMissingFromSplitsAllInTwoWrong)

/-- 'zzlaws_internal_prefix_b1.FnMissingFromIdempotentAndOrderFreeInOthers': WHATEVER THE INPUT: true; the input reads as it did. -/
def fnMissingFromIdempotentAndOrderFreeInOthersSpec : ChangeSpec := { name := "fnMissingFromIdempotentAndOrderFreeInOthers", fn := fun _ => fun
  | [d1, d2, d3, d4] => { results := [.lit (.bool true)], args := [d1, d2, d3, d4] }
  | _ => none }
def fnMissingFromIdempotentAndOrderFreeInOthersRow : OpenClaim := { program := "qxb6600884amods", sum := "95c2e19452c17f16894b7f315793e44e57212289640a033f6b5ff1775566192a", func := "example.com/holdfast/holdfast/zzlaws_internal_prefix_b1.FnMissingFromIdempotentAndOrderFreeInOthers", spec := "fnMissingFromIdempotentAndOrderFreeInOthers", plainKeys := false, make := .lifted ["publicsums"], apart := false }
def FnMissingFromIdempotentAndOrderFreeInOthersSaid : Prop := fnMissingFromIdempotentAndOrderFreeInOthersRow.holds Trym.pinned (OpenSpec.ofChange fnMissingFromIdempotentAndOrderFreeInOthersSpec)

/-- ITS FALSE NEIGHBOUR: 'it returns false'. Refute it at one input. -/
def fnMissingFromIdempotentAndOrderFreeInOthersWrong : ChangeSpec := { name := "fnMissingFromIdempotentAndOrderFreeInOthers", fn := fun _ => fun
  | [d1, d2, d3, d4] => { results := [.lit (.bool false)], args := [d1, d2, d3, d4] }
  | _ => none }
def FnMissingFromIdempotentAndOrderFreeInOthersWrongFalsely : Prop := fnMissingFromIdempotentAndOrderFreeInOthersRow.holds Trym.pinned (OpenSpec.ofChange fnMissingFromIdempotentAndOrderFreeInOthersWrong)

/-- 'zzlaws_internal_prefix_b1.FnCompareReportsExactlyTheDifferences': WHATEVER THE INPUT: true; the input reads as it did. -/
def fnCompareReportsExactlyTheDifferencesSpec : ChangeSpec := { name := "fnCompareReportsExactlyTheDifferences", fn := fun _ => fun
  | [d1, d2, d3, d4] => { results := [.lit (.bool true)], args := [d1, d2, d3, d4] }
  | _ => none }
def fnCompareReportsExactlyTheDifferencesRow : OpenClaim := { program := "qxb6600884amods", sum := "95c2e19452c17f16894b7f315793e44e57212289640a033f6b5ff1775566192a", func := "example.com/holdfast/holdfast/zzlaws_internal_prefix_b1.FnCompareReportsExactlyTheDifferences", spec := "fnCompareReportsExactlyTheDifferences", plainKeys := false, make := .lifted ["publicsums"], apart := false }
def FnCompareReportsExactlyTheDifferencesSaid : Prop := fnCompareReportsExactlyTheDifferencesRow.holds Trym.pinned (OpenSpec.ofChange fnCompareReportsExactlyTheDifferencesSpec)

/-- ITS FALSE NEIGHBOUR: 'it returns false'. Refute it at one input. -/
def fnCompareReportsExactlyTheDifferencesWrong : ChangeSpec := { name := "fnCompareReportsExactlyTheDifferences", fn := fun _ => fun
  | [d1, d2, d3, d4] => { results := [.lit (.bool false)], args := [d1, d2, d3, d4] }
  | _ => none }
def FnCompareReportsExactlyTheDifferencesWrongFalsely : Prop := fnCompareReportsExactlyTheDifferencesRow.holds Trym.pinned (OpenSpec.ofChange fnCompareReportsExactlyTheDifferencesWrong)

/-- 'zzlaws_internal_prefix_b1.FnCompareFindsNothingExactlyWhenAlike': WHATEVER THE INPUT: true; the input reads as it did. -/
def fnCompareFindsNothingExactlyWhenAlikeSpec : ChangeSpec := { name := "fnCompareFindsNothingExactlyWhenAlike", fn := fun _ => fun
  | [d1, d2] => { results := [.lit (.bool true)], args := [d1, d2] }
  | _ => none }
def fnCompareFindsNothingExactlyWhenAlikeRow : OpenClaim := { program := "qxb6600884amods", sum := "95c2e19452c17f16894b7f315793e44e57212289640a033f6b5ff1775566192a", func := "example.com/holdfast/holdfast/zzlaws_internal_prefix_b1.FnCompareFindsNothingExactlyWhenAlike", spec := "fnCompareFindsNothingExactlyWhenAlike", plainKeys := false, make := .lifted ["publicsums"], apart := false }
def FnCompareFindsNothingExactlyWhenAlikeSaid : Prop := fnCompareFindsNothingExactlyWhenAlikeRow.holds Trym.pinned (OpenSpec.ofChange fnCompareFindsNothingExactlyWhenAlikeSpec)

/-- ITS FALSE NEIGHBOUR: 'it returns false'. Refute it at one input. -/
def fnCompareFindsNothingExactlyWhenAlikeWrong : ChangeSpec := { name := "fnCompareFindsNothingExactlyWhenAlike", fn := fun _ => fun
  | [d1, d2] => { results := [.lit (.bool false)], args := [d1, d2] }
  | _ => none }
def FnCompareFindsNothingExactlyWhenAlikeWrongFalsely : Prop := fnCompareFindsNothingExactlyWhenAlikeRow.holds Trym.pinned (OpenSpec.ofChange fnCompareFindsNothingExactlyWhenAlikeWrong)

/-- 'zzlaws_internal_prefix_b1.FnCompareIgnoresPathsAndIsSymmetricWithinAType': WHATEVER THE INPUT: true; the input reads as it did. -/
def fnCompareIgnoresPathsAndIsSymmetricWithinATypeSpec : ChangeSpec := { name := "fnCompareIgnoresPathsAndIsSymmetricWithinAType", fn := fun _ => fun
  | [d1, d2, d3, d4, d5, d6] => { results := [.lit (.bool true)], args := [d1, d2, d3, d4, d5, d6] }
  | _ => none }
def fnCompareIgnoresPathsAndIsSymmetricWithinATypeRow : OpenClaim := { program := "qxb6600884amods", sum := "95c2e19452c17f16894b7f315793e44e57212289640a033f6b5ff1775566192a", func := "example.com/holdfast/holdfast/zzlaws_internal_prefix_b1.FnCompareIgnoresPathsAndIsSymmetricWithinAType", spec := "fnCompareIgnoresPathsAndIsSymmetricWithinAType", plainKeys := false, make := .lifted ["publicsums"], apart := false }
def FnCompareIgnoresPathsAndIsSymmetricWithinATypeSaid : Prop := fnCompareIgnoresPathsAndIsSymmetricWithinATypeRow.holds Trym.pinned (OpenSpec.ofChange fnCompareIgnoresPathsAndIsSymmetricWithinATypeSpec)

/-- ITS FALSE NEIGHBOUR: 'it returns false'. Refute it at one input. -/
def fnCompareIgnoresPathsAndIsSymmetricWithinATypeWrong : ChangeSpec := { name := "fnCompareIgnoresPathsAndIsSymmetricWithinAType", fn := fun _ => fun
  | [d1, d2, d3, d4, d5, d6] => { results := [.lit (.bool false)], args := [d1, d2, d3, d4, d5, d6] }
  | _ => none }
def FnCompareIgnoresPathsAndIsSymmetricWithinATypeWrongFalsely : Prop := fnCompareIgnoresPathsAndIsSymmetricWithinATypeRow.holds Trym.pinned (OpenSpec.ofChange fnCompareIgnoresPathsAndIsSymmetricWithinATypeWrong)

end Rows
end Go.Proofs.Qxb6600884aMods
