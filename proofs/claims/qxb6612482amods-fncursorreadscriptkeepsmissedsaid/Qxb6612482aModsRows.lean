/-
  No cell of these rows narrows 'for every input' (looked for: loops, veiled, ifaces, maps, wideKeys, modest, calm, conditions, laid).
  DERIVED. THE GIVEN ROWS OF THIS SEAT. 3 by the template 'for every input the law returns true; each argument reads behind the call as it read before'; 0 by the template 'total and deterministic' (their statements: Qxb6612482aModsTotals.lean).
  GIVEN WITH THE SEED: the statements are not yours to turn. If you find one false, say at which input.
  Laid BY PROGRAM, IN A SANDBOX (cutbox-rows.mjs): the forced cells as the released guide's own fill.sh prints them over the translation 69d2b0aee75a62e0… (all of the seat's roots in one cut). By AI agents, Wed Nov 11 2026. No macro, syntax, notation, axiom, sorry.
-/
import Derived.Test.Qxb6612482aModsChecked
import GoSem.Claim
import GoSem.ClaimJoined
import GoSem.ClaimMapViews
import Derived.JoinedTies
import Derived.KernelRfl
namespace Go.Proofs.Qxb6612482aMods
/- THE CELL 'sum', in the pinned program and in every row, IS THE sha256 OF THE DUMP (.gsa) THAT Qxb6612482aModsProg.lean LOADS. Nothing in Lean hashes anything: it is a label: what it is worth is what the hold of that sum in a sandbox is worth. -/
noncomputable def Trym.pinned : Pinned := { name := "qxb6612482amods", sum := "69d2b0aee75a62e0ddcf73059638c0b0470d20c5030a96a990cb2243056132e3", checked := Trym.checked }
namespace Rows
def none {H : Type} : Left H := { results := [], args := [] }

/-- 'zzlaws_internal_relay_b1.FnWindowLastIsGreatestPosition': WHATEVER THE INPUT: true; the input reads as it did. -/
def fnWindowLastIsGreatestPositionSpec : ChangeSpec := { name := "fnWindowLastIsGreatestPosition", fn := fun _ => fun
  | [d1, d2, d3, d4] => { results := [.lit (.bool true)], args := [d1, d2, d3, d4] }
  | _ => none }
def fnWindowLastIsGreatestPositionRow : OpenClaim := { program := "qxb6612482amods", sum := "69d2b0aee75a62e0ddcf73059638c0b0470d20c5030a96a990cb2243056132e3", func := "example.com/sealpost/sealpost/zzlaws_internal_relay_b1.FnWindowLastIsGreatestPosition", spec := "fnWindowLastIsGreatestPosition", plainKeys := false, make := .lifted ["publicsums"], apart := false }
def FnWindowLastIsGreatestPositionSaid : Prop := fnWindowLastIsGreatestPositionRow.holds Trym.pinned (OpenSpec.ofChange fnWindowLastIsGreatestPositionSpec)

/-- ITS FALSE NEIGHBOUR: 'it returns false'. Refute it at one input. -/
def fnWindowLastIsGreatestPositionWrong : ChangeSpec := { name := "fnWindowLastIsGreatestPosition", fn := fun _ => fun
  | [d1, d2, d3, d4] => { results := [.lit (.bool false)], args := [d1, d2, d3, d4] }
  | _ => none }
def FnWindowLastIsGreatestPositionWrongFalsely : Prop := fnWindowLastIsGreatestPositionRow.holds Trym.pinned (OpenSpec.ofChange fnWindowLastIsGreatestPositionWrong)

/-- 'zzlaws_internal_relay_b1.FnCursorReadNotesMissedTransactions': WHATEVER THE INPUT: true; the input reads as it did. -/
def fnCursorReadNotesMissedTransactionsSpec : ChangeSpec := { name := "fnCursorReadNotesMissedTransactions", fn := fun _ => fun
  | [d1, d2, d3, d4, d5, d6, d7] => { results := [.lit (.bool true)], args := [d1, d2, d3, d4, d5, d6, d7] }
  | _ => none }
def fnCursorReadNotesMissedTransactionsRow : OpenClaim := { program := "qxb6612482amods", sum := "69d2b0aee75a62e0ddcf73059638c0b0470d20c5030a96a990cb2243056132e3", func := "example.com/sealpost/sealpost/zzlaws_internal_relay_b1.FnCursorReadNotesMissedTransactions", spec := "fnCursorReadNotesMissedTransactions", plainKeys := false, make := .lifted ["publicsums"], apart := false }
def FnCursorReadNotesMissedTransactionsSaid : Prop := fnCursorReadNotesMissedTransactionsRow.holds Trym.pinned (OpenSpec.ofChange fnCursorReadNotesMissedTransactionsSpec)

/-- ITS FALSE NEIGHBOUR: 'it returns false'. Refute it at one input. -/
def fnCursorReadNotesMissedTransactionsWrong : ChangeSpec := { name := "fnCursorReadNotesMissedTransactions", fn := fun _ => fun
  | [d1, d2, d3, d4, d5, d6, d7] => { results := [.lit (.bool false)], args := [d1, d2, d3, d4, d5, d6, d7] }
  | _ => none }
def FnCursorReadNotesMissedTransactionsWrongFalsely : Prop := fnCursorReadNotesMissedTransactionsRow.holds Trym.pinned (OpenSpec.ofChange fnCursorReadNotesMissedTransactionsWrong)

/-- 'zzlaws_internal_relay_b1.FnCursorReadScriptKeepsMissed': WHATEVER THE INPUT: true; the input reads as it did. -/
def fnCursorReadScriptKeepsMissedSpec : ChangeSpec := { name := "fnCursorReadScriptKeepsMissed", fn := fun _ => fun
  | [d1, d2, d3, d4, d5, d6, d7] => { results := [.lit (.bool true)], args := [d1, d2, d3, d4, d5, d6, d7] }
  | _ => none }
def fnCursorReadScriptKeepsMissedRow : OpenClaim := { program := "qxb6612482amods", sum := "69d2b0aee75a62e0ddcf73059638c0b0470d20c5030a96a990cb2243056132e3", func := "example.com/sealpost/sealpost/zzlaws_internal_relay_b1.FnCursorReadScriptKeepsMissed", spec := "fnCursorReadScriptKeepsMissed", plainKeys := false, make := .lifted ["publicsums"], apart := false }
def FnCursorReadScriptKeepsMissedSaid : Prop := fnCursorReadScriptKeepsMissedRow.holds Trym.pinned (OpenSpec.ofChange fnCursorReadScriptKeepsMissedSpec)

/-- ITS FALSE NEIGHBOUR: 'it returns false'. Refute it at one input. -/
def fnCursorReadScriptKeepsMissedWrong : ChangeSpec := { name := "fnCursorReadScriptKeepsMissed", fn := fun _ => fun
  | [d1, d2, d3, d4, d5, d6, d7] => { results := [.lit (.bool false)], args := [d1, d2, d3, d4, d5, d6, d7] }
  | _ => none }
def FnCursorReadScriptKeepsMissedWrongFalsely : Prop := fnCursorReadScriptKeepsMissedRow.holds Trym.pinned (OpenSpec.ofChange fnCursorReadScriptKeepsMissedWrong)

end Rows
end Go.Proofs.Qxb6612482aMods
