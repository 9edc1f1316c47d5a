/-
  No cell of these rows narrows 'for every input' (looked for: loops, veiled, ifaces, maps, wideKeys, modest, calm, conditions, laid).
  DERIVED. THE GIVEN ROWS OF THIS SEAT. 3 by the template 'for every input the law returns true; each argument reads behind the call as it read before'; 0 by the template 'total and deterministic' (their statements: Qxb6601900aModsTotals.lean).
  GIVEN WITH THE SEED: the statements are not yours to turn. If you find one false, say at which input.
  Laid BY PROGRAM, IN A SANDBOX (cutbox-rows.mjs): the forced cells as the released guide's own fill.sh prints them over the translation 562bc5445aca30aa… (all of the seat's roots in one cut). By AI agents, Wed Nov 11 2026. No macro, syntax, notation, axiom, sorry.
-/
import Derived.Test.Qxb6601900aModsChecked
import GoSem.Claim
import GoSem.ClaimJoined
import GoSem.ClaimMapViews
import Derived.JoinedTies
import Derived.KernelRfl
namespace Go.Proofs.Qxb6601900aMods
/- THE CELL 'sum', in the pinned program and in every row, IS THE sha256 OF THE DUMP (.gsa) THAT Qxb6601900aModsProg.lean LOADS. Nothing in Lean hashes anything: it is a label: what it is worth is what the hold of that sum in a sandbox is worth. -/
noncomputable def Trym.pinned : Pinned := { name := "qxb6601900amods", sum := "562bc5445aca30aaaf54afc6e1c31c90e6bf4ac23984657be1d6fb5254ad8219", checked := Trym.checked }
namespace Rows
def none {H : Type} : Left H := { results := [], args := [] }

/-- 'zzlaws_pkg_streamjson_b1.FnStreamjsonCutMatchesCodePointModel': WHATEVER THE INPUT: true; the input reads as it did. -/
def fnStreamjsonCutMatchesCodePointModelSpec : ChangeSpec := { name := "fnStreamjsonCutMatchesCodePointModel", fn := fun _ => fun
  | [d1, d2] => { results := [.lit (.bool true)], args := [d1, d2] }
  | _ => none }
def fnStreamjsonCutMatchesCodePointModelRow : OpenClaim := { program := "qxb6601900amods", sum := "562bc5445aca30aaaf54afc6e1c31c90e6bf4ac23984657be1d6fb5254ad8219", func := "example.com/windlass/windlass/zzlaws_pkg_streamjson_b1.FnStreamjsonCutMatchesCodePointModel", spec := "fnStreamjsonCutMatchesCodePointModel", make := .lifted ["publicsums"], apart := false }
def FnStreamjsonCutMatchesCodePointModelSaid : Prop := fnStreamjsonCutMatchesCodePointModelRow.holds Trym.pinned (OpenSpec.ofChange fnStreamjsonCutMatchesCodePointModelSpec)

/-- ITS FALSE NEIGHBOUR: 'it returns false'. Refute it at one input. -/
def fnStreamjsonCutMatchesCodePointModelWrong : ChangeSpec := { name := "fnStreamjsonCutMatchesCodePointModel", fn := fun _ => fun
  | [d1, d2] => { results := [.lit (.bool false)], args := [d1, d2] }
  | _ => none }
def FnStreamjsonCutMatchesCodePointModelWrongFalsely : Prop := fnStreamjsonCutMatchesCodePointModelRow.holds Trym.pinned (OpenSpec.ofChange fnStreamjsonCutMatchesCodePointModelWrong)

/-- 'zzlaws_pkg_streamjson_b1.FnStreamjsonCutRecutNarrowerEqualsDirectCut': WHATEVER THE INPUT: true; the input reads as it did. -/
def fnStreamjsonCutRecutNarrowerEqualsDirectCutSpec : ChangeSpec := { name := "fnStreamjsonCutRecutNarrowerEqualsDirectCut", fn := fun _ => fun
  | [d1, d2, d3] => { results := [.lit (.bool true)], args := [d1, d2, d3] }
  | _ => none }
def fnStreamjsonCutRecutNarrowerEqualsDirectCutRow : OpenClaim := { program := "qxb6601900amods", sum := "562bc5445aca30aaaf54afc6e1c31c90e6bf4ac23984657be1d6fb5254ad8219", func := "example.com/windlass/windlass/zzlaws_pkg_streamjson_b1.FnStreamjsonCutRecutNarrowerEqualsDirectCut", spec := "fnStreamjsonCutRecutNarrowerEqualsDirectCut", make := .lifted ["publicsums"], apart := false }
def FnStreamjsonCutRecutNarrowerEqualsDirectCutSaid : Prop := fnStreamjsonCutRecutNarrowerEqualsDirectCutRow.holds Trym.pinned (OpenSpec.ofChange fnStreamjsonCutRecutNarrowerEqualsDirectCutSpec)

/-- ITS FALSE NEIGHBOUR: 'it returns false'. Refute it at one input. -/
def fnStreamjsonCutRecutNarrowerEqualsDirectCutWrong : ChangeSpec := { name := "fnStreamjsonCutRecutNarrowerEqualsDirectCut", fn := fun _ => fun
  | [d1, d2, d3] => { results := [.lit (.bool false)], args := [d1, d2, d3] }
  | _ => none }
def FnStreamjsonCutRecutNarrowerEqualsDirectCutWrongFalsely : Prop := fnStreamjsonCutRecutNarrowerEqualsDirectCutRow.holds Trym.pinned (OpenSpec.ofChange fnStreamjsonCutRecutNarrowerEqualsDirectCutWrong)

/-- 'zzlaws_pkg_streamjson_b1.FnStreamjsonCutShownTextStableAtWidthPlusThree': WHATEVER THE INPUT: true; the input reads as it did. -/
def fnStreamjsonCutShownTextStableAtWidthPlusThreeSpec : ChangeSpec := { name := "fnStreamjsonCutShownTextStableAtWidthPlusThree", fn := fun _ => fun
  | [d1, d2] => { results := [.lit (.bool true)], args := [d1, d2] }
  | _ => none }
def fnStreamjsonCutShownTextStableAtWidthPlusThreeRow : OpenClaim := { program := "qxb6601900amods", sum := "562bc5445aca30aaaf54afc6e1c31c90e6bf4ac23984657be1d6fb5254ad8219", func := "example.com/windlass/windlass/zzlaws_pkg_streamjson_b1.FnStreamjsonCutShownTextStableAtWidthPlusThree", spec := "fnStreamjsonCutShownTextStableAtWidthPlusThree", make := .lifted ["publicsums"], apart := false }
def FnStreamjsonCutShownTextStableAtWidthPlusThreeSaid : Prop := fnStreamjsonCutShownTextStableAtWidthPlusThreeRow.holds Trym.pinned (OpenSpec.ofChange fnStreamjsonCutShownTextStableAtWidthPlusThreeSpec)

/-- ITS FALSE NEIGHBOUR: 'it returns false'. Refute it at one input. -/
def fnStreamjsonCutShownTextStableAtWidthPlusThreeWrong : ChangeSpec := { name := "fnStreamjsonCutShownTextStableAtWidthPlusThree", fn := fun _ => fun
  | [d1, d2] => { results := [.lit (.bool false)], args := [d1, d2] }
  | _ => none }
def FnStreamjsonCutShownTextStableAtWidthPlusThreeWrongFalsely : Prop := fnStreamjsonCutShownTextStableAtWidthPlusThreeRow.holds Trym.pinned (OpenSpec.ofChange fnStreamjsonCutShownTextStableAtWidthPlusThreeWrong)

end Rows
end Go.Proofs.Qxb6601900aMods
