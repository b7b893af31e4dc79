/-
  No cell of these rows narrows 'for every input' (looked for: loops, veiled, ifaces, maps, wideKeys, modest, calm, conditions, laid).
  DERIVED. THE GIVEN ROWS OF THIS SEAT. 2 by the template 'for every input the law returns true; each argument reads behind the call as it read before'; 0 by the template 'total and deterministic' (their statements: Qxb6617197aModsTotals.lean).
  GIVEN WITH THE SEED: the statements are not yours to turn. If you find one false, say at which input.
  Laid BY PROGRAM, IN A SANDBOX (cutbox-rows.mjs): the forced cells as the released guide's own fill.sh prints them over the translation c7bb53639ec6428f… (all of the seat's roots in one cut). By AI agents, Wed Nov 11 2026. No macro, syntax, notation, axiom, sorry.
-/
import Derived.Test.Qxb6617197aModsChecked
import GoSem.Claim
import GoSem.ClaimJoined
import GoSem.ClaimMapViews
import Derived.JoinedTies
import Derived.KernelRfl
namespace Go.Proofs.Qxb6617197aMods
/- THE CELL 'sum', in the pinned program and in every row, IS THE sha256 OF THE DUMP (.gsa) THAT Qxb6617197aModsProg.lean LOADS. Nothing in Lean hashes anything: it is a label: what it is worth is what the hold of that sum in a sandbox is worth. -/
noncomputable def Trym.pinned : Pinned := { name := "qxb6617197amods", sum := "c7bb53639ec6428fba3e700d31248f460be12e117cab3257040eed2205ba534e", checked := Trym.checked }
namespace Rows
def none {H : Type} : Left H := { results := [], args := [] }

/-- 'zzlaws_internal_cli_b1.FnGivenIsFirstOfSingles': WHATEVER THE INPUT: true; the input reads as it did. -/
def fnGivenIsFirstOfSinglesSpec : ChangeSpec := { name := "fnGivenIsFirstOfSingles", fn := fun _ => fun
  | [d1, d2, d3] => { results := [.lit (.bool true)], args := [d1, d2, d3] }
  | _ => none }
def fnGivenIsFirstOfSinglesRow : OpenClaim := { program := "qxb6617197amods", sum := "c7bb53639ec6428fba3e700d31248f460be12e117cab3257040eed2205ba534e", func := "example.com/fingerpost/fingerpost/zzlaws_internal_cli_b1.FnGivenIsFirstOfSingles", spec := "fnGivenIsFirstOfSingles", make := .lifted ["publicsums"], apart := false }
def FnGivenIsFirstOfSinglesSaid : Prop := fnGivenIsFirstOfSinglesRow.holds Trym.pinned (OpenSpec.ofChange fnGivenIsFirstOfSinglesSpec)

/-- ITS FALSE NEIGHBOUR: 'it returns false'. Refute it at one input. -/
def fnGivenIsFirstOfSinglesWrong : ChangeSpec := { name := "fnGivenIsFirstOfSingles", fn := fun _ => fun
  | [d1, d2, d3] => { results := [.lit (.bool false)], args := [d1, d2, d3] }
  | _ => none }
def FnGivenIsFirstOfSinglesWrongFalsely : Prop := fnGivenIsFirstOfSinglesRow.holds Trym.pinned (OpenSpec.ofChange fnGivenIsFirstOfSinglesWrong)

/-- 'zzlaws_internal_cli_b1.FnGivenExactlyOneClearingMoves': WHATEVER THE INPUT: true; the input reads as it did. -/
def fnGivenExactlyOneClearingMovesSpec : ChangeSpec := { name := "fnGivenExactlyOneClearingMoves", fn := fun _ => fun
  | [d1, d2, d3] => { results := [.lit (.bool true)], args := [d1, d2, d3] }
  | _ => none }
def fnGivenExactlyOneClearingMovesRow : OpenClaim := { program := "qxb6617197amods", sum := "c7bb53639ec6428fba3e700d31248f460be12e117cab3257040eed2205ba534e", func := "example.com/fingerpost/fingerpost/zzlaws_internal_cli_b1.FnGivenExactlyOneClearingMoves", spec := "fnGivenExactlyOneClearingMoves", make := .lifted ["publicsums"], apart := false }
def FnGivenExactlyOneClearingMovesSaid : Prop := fnGivenExactlyOneClearingMovesRow.holds Trym.pinned (OpenSpec.ofChange fnGivenExactlyOneClearingMovesSpec)

/-- ITS FALSE NEIGHBOUR: 'it returns false'. Refute it at one input. -/
def fnGivenExactlyOneClearingMovesWrong : ChangeSpec := { name := "fnGivenExactlyOneClearingMoves", fn := fun _ => fun
  | [d1, d2, d3] => { results := [.lit (.bool false)], args := [d1, d2, d3] }
  | _ => none }
def FnGivenExactlyOneClearingMovesWrongFalsely : Prop := fnGivenExactlyOneClearingMovesRow.holds Trym.pinned (OpenSpec.ofChange fnGivenExactlyOneClearingMovesWrong)

end Rows
end Go.Proofs.Qxb6617197aMods
