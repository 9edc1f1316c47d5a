/-
  No cell of these rows narrows 'for every input' (looked for: loops, veiled, ifaces, maps, wideKeys, modest, calm, conditions, laid).
  DERIVED. THE GIVEN ROWS OF THIS SEAT. 3 by the template 'for every input the law returns true; each argument reads behind the call as it read before'; 0 by the template 'total and deterministic' (their statements: Qxb6605581aModsTotals.lean).
  GIVEN WITH THE SEED: the statements are not yours to turn. If you find one false, say at which input.
  Laid BY PROGRAM, IN A SANDBOX (cutbox-rows.mjs): the forced cells as the released guide's own fill.sh prints them over the translation 245eef87307bfc3c… (all of the seat's roots in one cut). By AI agents, Wed Nov 11 2026. No macro, syntax, notation, axiom, sorry.
-/
import Derived.Test.Qxb6605581aModsChecked
import GoSem.Claim
import GoSem.ClaimJoined
import GoSem.ClaimMapViews
import Derived.JoinedTies
import Derived.KernelRfl
namespace Go.Proofs.Qxb6605581aMods
/- THE CELL 'sum', in the pinned program and in every row, IS THE sha256 OF THE DUMP (.gsa) THAT Qxb6605581aModsProg.lean LOADS. Nothing in Lean hashes anything: it is a label: what it is worth is what the hold of that sum in a sandbox is worth. -/
noncomputable def Trym.pinned : Pinned := { name := "qxb6605581amods", sum := "245eef87307bfc3c7c96d9130bff8330f867300617150a87edc9e0048c97121d", checked := Trym.checked }
namespace Rows
def none {H : Type} : Left H := { results := [], args := [] }

/-- 'zzlaws_bradleyterry_b1.FnLargestGroupMatchesReachabilityModel': WHATEVER THE INPUT: true; the input reads as it did. -/
def fnLargestGroupMatchesReachabilityModelSpec : ChangeSpec := { name := "fnLargestGroupMatchesReachabilityModel", fn := fun _ => fun
  | [d1, d2] => { results := [.lit (.bool true)], args := [d1, d2] }
  | _ => none }
def fnLargestGroupMatchesReachabilityModelRow : OpenClaim := { program := "qxb6605581amods", sum := "245eef87307bfc3c7c96d9130bff8330f867300617150a87edc9e0048c97121d", func := "example.com/duo-rank/duo-rank/zzlaws_bradleyterry_b1.FnLargestGroupMatchesReachabilityModel", spec := "fnLargestGroupMatchesReachabilityModel", unfollowed := true, recurses := true, plainKeys := false, make := .lifted ["publicsums"], apart := false }
def FnLargestGroupMatchesReachabilityModelSaid : Prop := fnLargestGroupMatchesReachabilityModelRow.holds Trym.pinned (OpenSpec.ofChange fnLargestGroupMatchesReachabilityModelSpec)

/-- ITS FALSE NEIGHBOUR: 'it returns false'. Refute it at one input. -/
def fnLargestGroupMatchesReachabilityModelWrong : ChangeSpec := { name := "fnLargestGroupMatchesReachabilityModel", fn := fun _ => fun
  | [d1, d2] => { results := [.lit (.bool false)], args := [d1, d2] }
  | _ => none }
def FnLargestGroupMatchesReachabilityModelWrongFalsely : Prop := fnLargestGroupMatchesReachabilityModelRow.holds Trym.pinned (OpenSpec.ofChange fnLargestGroupMatchesReachabilityModelWrong)

/-- 'zzlaws_bradleyterry_b1.FnSolveOddInG': WHATEVER THE INPUT: true; the input reads as it did. -/
def fnSolveOddInGSpec : ChangeSpec := { name := "fnSolveOddInG", fn := fun _ => fun
  | [d1, d2, d3, d4, d5, d6, d7] => { results := [.lit (.bool true)], args := [d1, d2, d3, d4, d5, d6, d7] }
  | _ => none }
def fnSolveOddInGRow : OpenClaim := { program := "qxb6605581amods", sum := "245eef87307bfc3c7c96d9130bff8330f867300617150a87edc9e0048c97121d", func := "example.com/duo-rank/duo-rank/zzlaws_bradleyterry_b1.FnSolveOddInG", spec := "fnSolveOddInG", unfollowed := true, recurses := true, plainKeys := false, make := .lifted ["publicsums"], apart := false }
def FnSolveOddInGSaid : Prop := fnSolveOddInGRow.holds Trym.pinned (OpenSpec.ofChange fnSolveOddInGSpec)

/-- ITS FALSE NEIGHBOUR: 'it returns false'. Refute it at one input. -/
def fnSolveOddInGWrong : ChangeSpec := { name := "fnSolveOddInG", fn := fun _ => fun
  | [d1, d2, d3, d4, d5, d6, d7] => { results := [.lit (.bool false)], args := [d1, d2, d3, d4, d5, d6, d7] }
  | _ => none }
def FnSolveOddInGWrongFalsely : Prop := fnSolveOddInGRow.holds Trym.pinned (OpenSpec.ofChange fnSolveOddInGWrong)

/-- 'zzlaws_bradleyterry_b1.FnAddPairScriptMatchesPairTotals': WHATEVER THE INPUT: true; the input reads as it did. -/
def fnAddPairScriptMatchesPairTotalsSpec : ChangeSpec := { name := "fnAddPairScriptMatchesPairTotals", fn := fun _ => fun
  | [d] => { results := [.lit (.bool true)], args := [d] }
  | _ => none }
def fnAddPairScriptMatchesPairTotalsRow : OpenClaim := { program := "qxb6605581amods", sum := "245eef87307bfc3c7c96d9130bff8330f867300617150a87edc9e0048c97121d", func := "example.com/duo-rank/duo-rank/zzlaws_bradleyterry_b1.FnAddPairScriptMatchesPairTotals", spec := "fnAddPairScriptMatchesPairTotals", plainKeys := false, make := .lifted ["publicsums"], apart := false }
def FnAddPairScriptMatchesPairTotalsSaid : Prop := fnAddPairScriptMatchesPairTotalsRow.holds Trym.pinned (OpenSpec.ofChange fnAddPairScriptMatchesPairTotalsSpec)

/-- ITS FALSE NEIGHBOUR: 'it returns false'. Refute it at one input. -/
def fnAddPairScriptMatchesPairTotalsWrong : ChangeSpec := { name := "fnAddPairScriptMatchesPairTotals", fn := fun _ => fun
  | [d] => { results := [.lit (.bool false)], args := [d] }
  | _ => none }
def FnAddPairScriptMatchesPairTotalsWrongFalsely : Prop := fnAddPairScriptMatchesPairTotalsRow.holds Trym.pinned (OpenSpec.ofChange fnAddPairScriptMatchesPairTotalsWrong)

end Rows
end Go.Proofs.Qxb6605581aMods
