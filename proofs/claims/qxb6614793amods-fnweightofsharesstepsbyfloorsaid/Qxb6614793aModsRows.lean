/-
  No cell of these rows narrows 'for every input' (looked for: loops, veiled, ifaces, maps, wideKeys, modest, calm, conditions, laid).
  DERIVED. THE GIVEN ROWS OF THIS SEAT. 2 by the template 'for every input the law returns true; each argument reads behind the call as it read before'; 0 by the template 'total and deterministic' (their statements: Qxb6614793aModsTotals.lean).
  GIVEN WITH THE SEED: the statements are not yours to turn. If you find one false, say at which input.
  Laid BY PROGRAM, IN A SANDBOX (cutbox-rows.mjs): the forced cells as the released guide's own fill.sh prints them over the translation 5cc92991ce967872… (all of the seat's roots in one cut). By AI agents, Wed Nov 11 2026. No macro, syntax, notation, axiom, sorry.
-/
import Derived.Test.Qxb6614793aModsChecked
import GoSem.Claim
import GoSem.ClaimJoined
import GoSem.ClaimMapViews
import Derived.JoinedTies
import Derived.KernelRfl
namespace Go.Proofs.Qxb6614793aMods
/- THE CELL 'sum', in the pinned program and in every row, IS THE sha256 OF THE DUMP (.gsa) THAT Qxb6614793aModsProg.lean LOADS. Nothing in Lean hashes anything: it is a label: what it is worth is what the hold of that sum in a sandbox is worth. -/
noncomputable def Trym.pinned : Pinned := { name := "qxb6614793amods", sum := "5cc92991ce96787206b82b6e1efcad1e6cc2c4525acda40e01483e36d4c5a3c2", checked := Trym.checked }
namespace Rows
def none {H : Type} : Left H := { results := [], args := [] }

/-- 'zzlaws_cgroup_b1.FnWeightOfSharesStepsByFloor': WHATEVER THE INPUT: true; the input reads as it did. -/
def fnWeightOfSharesStepsByFloorSpec : ChangeSpec := { name := "fnWeightOfSharesStepsByFloor", fn := fun _ => fun
  | [d] => { results := [.lit (.bool true)], args := [d] }
  | _ => none }
def fnWeightOfSharesStepsByFloorRow : OpenClaim := { program := "qxb6614793amods", sum := "5cc92991ce96787206b82b6e1efcad1e6cc2c4525acda40e01483e36d4c5a3c2", func := "example.com/evenkeel/evenkeel/zzlaws_cgroup_b1.FnWeightOfSharesStepsByFloor", spec := "fnWeightOfSharesStepsByFloor", make := .lifted ["publicsums"], apart := false }
def FnWeightOfSharesStepsByFloorSaid : Prop := fnWeightOfSharesStepsByFloorRow.holds Trym.pinned (OpenSpec.ofChange fnWeightOfSharesStepsByFloorSpec)

/-- ITS FALSE NEIGHBOUR: 'it returns false'. Refute it at one input. -/
def fnWeightOfSharesStepsByFloorWrong : ChangeSpec := { name := "fnWeightOfSharesStepsByFloor", fn := fun _ => fun
  | [d] => { results := [.lit (.bool false)], args := [d] }
  | _ => none }
def FnWeightOfSharesStepsByFloorWrongFalsely : Prop := fnWeightOfSharesStepsByFloorRow.holds Trym.pinned (OpenSpec.ofChange fnWeightOfSharesStepsByFloorWrong)

/-- 'zzlaws_cgroup_b1.FnRetriedInterruptionsAreInvisible': WHATEVER THE INPUT: true; the input reads as it did. -/
def fnRetriedInterruptionsAreInvisibleSpec : ChangeSpec := { name := "fnRetriedInterruptionsAreInvisible", fn := fun _ => fun
  | [d1, d2] => { results := [.lit (.bool true)], args := [d1, d2] }
  | _ => none }
def fnRetriedInterruptionsAreInvisibleRow : OpenClaim := { program := "qxb6614793amods", sum := "5cc92991ce96787206b82b6e1efcad1e6cc2c4525acda40e01483e36d4c5a3c2", func := "example.com/evenkeel/evenkeel/zzlaws_cgroup_b1.FnRetriedInterruptionsAreInvisible", spec := "fnRetriedInterruptionsAreInvisible", unfollowed := true, recurses := true, make := .lifted ["publicsums"], apart := false }
def FnRetriedInterruptionsAreInvisibleSaid : Prop := fnRetriedInterruptionsAreInvisibleRow.holds Trym.pinned (OpenSpec.ofChange fnRetriedInterruptionsAreInvisibleSpec)

/-- ITS FALSE NEIGHBOUR: 'it returns false'. Refute it at one input. -/
def fnRetriedInterruptionsAreInvisibleWrong : ChangeSpec := { name := "fnRetriedInterruptionsAreInvisible", fn := fun _ => fun
  | [d1, d2] => { results := [.lit (.bool false)], args := [d1, d2] }
  | _ => none }
def FnRetriedInterruptionsAreInvisibleWrongFalsely : Prop := fnRetriedInterruptionsAreInvisibleRow.holds Trym.pinned (OpenSpec.ofChange fnRetriedInterruptionsAreInvisibleWrong)

end Rows
end Go.Proofs.Qxb6614793aMods
