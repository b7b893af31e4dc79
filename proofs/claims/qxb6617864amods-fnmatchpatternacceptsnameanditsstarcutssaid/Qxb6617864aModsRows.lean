/-
  No cell of these rows narrows 'for every input' (looked for: loops, veiled, ifaces, maps, wideKeys, modest, calm, conditions, laid).
  DERIVED. THE GIVEN ROWS OF THIS SEAT. 3 by the template 'for every input the law returns true; each argument reads behind the call as it read before'; 0 by the template 'total and deterministic' (their statements: Qxb6617864aModsTotals.lean).
  GIVEN WITH THE SEED: the statements are not yours to turn. If you find one false, say at which input.
  Laid BY PROGRAM, IN A SANDBOX (cutbox-rows.mjs): the forced cells as the released guide's own fill.sh prints them over the translation 4fd664baee69d372… (all of the seat's roots in one cut). By AI agents, Wed Nov 11 2026. No macro, syntax, notation, axiom, sorry.
-/
import Derived.Test.Qxb6617864aModsChecked
import GoSem.Claim
import GoSem.ClaimJoined
import GoSem.ClaimMapViews
import Derived.JoinedTies
import Derived.KernelRfl
namespace Go.Proofs.Qxb6617864aMods
/- THE CELL 'sum', in the pinned program and in every row, IS THE sha256 OF THE DUMP (.gsa) THAT Qxb6617864aModsProg.lean LOADS. Nothing in Lean hashes anything: it is a label: what it is worth is what the hold of that sum in a sandbox is worth. -/
noncomputable def Trym.pinned : Pinned := { name := "qxb6617864amods", sum := "4fd664baee69d372f493943d43bf35006f70f639fdc77ed4609601dbb850e57e", checked := Trym.checked }
namespace Rows
def none {H : Type} : Left H := { results := [], args := [] }

/-- 'zzlaws_sshca_b1.FnMatchPatternAgreesWithTableModel': WHATEVER THE INPUT: true; the input reads as it did. -/
def fnMatchPatternAgreesWithTableModelSpec : ChangeSpec := { name := "fnMatchPatternAgreesWithTableModel", fn := fun _ => fun
  | [d1, d2] => { results := [.lit (.bool true)], args := [d1, d2] }
  | _ => none }
def fnMatchPatternAgreesWithTableModelRow : OpenClaim := { program := "qxb6617864amods", sum := "4fd664baee69d372f493943d43bf35006f70f639fdc77ed4609601dbb850e57e", func := "example.com/muster/muster/zzlaws_sshca_b1.FnMatchPatternAgreesWithTableModel", spec := "fnMatchPatternAgreesWithTableModel", make := .lifted ["publicsums"], apart := false }
def FnMatchPatternAgreesWithTableModelSaid : Prop := fnMatchPatternAgreesWithTableModelRow.holds Trym.pinned (OpenSpec.ofChange fnMatchPatternAgreesWithTableModelSpec)

/-- ITS FALSE NEIGHBOUR: 'it returns false'. Refute it at one input. -/
def fnMatchPatternAgreesWithTableModelWrong : ChangeSpec := { name := "fnMatchPatternAgreesWithTableModel", fn := fun _ => fun
  | [d1, d2] => { results := [.lit (.bool false)], args := [d1, d2] }
  | _ => none }
def FnMatchPatternAgreesWithTableModelWrongFalsely : Prop := fnMatchPatternAgreesWithTableModelRow.holds Trym.pinned (OpenSpec.ofChange fnMatchPatternAgreesWithTableModelWrong)

/-- 'zzlaws_sshca_b1.FnMatchPatternAcceptsNameAndItsStarCuts': WHATEVER THE INPUT: true; the input reads as it did. -/
def fnMatchPatternAcceptsNameAndItsStarCutsSpec : ChangeSpec := { name := "fnMatchPatternAcceptsNameAndItsStarCuts", fn := fun _ => fun
  | [d1, d2, d3, d4] => { results := [.lit (.bool true)], args := [d1, d2, d3, d4] }
  | _ => none }
def fnMatchPatternAcceptsNameAndItsStarCutsRow : OpenClaim := { program := "qxb6617864amods", sum := "4fd664baee69d372f493943d43bf35006f70f639fdc77ed4609601dbb850e57e", func := "example.com/muster/muster/zzlaws_sshca_b1.FnMatchPatternAcceptsNameAndItsStarCuts", spec := "fnMatchPatternAcceptsNameAndItsStarCuts", make := .lifted ["publicsums"], apart := false }
def FnMatchPatternAcceptsNameAndItsStarCutsSaid : Prop := fnMatchPatternAcceptsNameAndItsStarCutsRow.holds Trym.pinned (OpenSpec.ofChange fnMatchPatternAcceptsNameAndItsStarCutsSpec)

/-- ITS FALSE NEIGHBOUR: 'it returns false'. Refute it at one input. -/
def fnMatchPatternAcceptsNameAndItsStarCutsWrong : ChangeSpec := { name := "fnMatchPatternAcceptsNameAndItsStarCuts", fn := fun _ => fun
  | [d1, d2, d3, d4] => { results := [.lit (.bool false)], args := [d1, d2, d3, d4] }
  | _ => none }
def FnMatchPatternAcceptsNameAndItsStarCutsWrongFalsely : Prop := fnMatchPatternAcceptsNameAndItsStarCutsRow.holds Trym.pinned (OpenSpec.ofChange fnMatchPatternAcceptsNameAndItsStarCutsWrong)

/-- 'zzlaws_sshca_b1.FnLowerByteFoldsExactlyASCIICase': WHATEVER THE INPUT: true; the input reads as it did. -/
def fnLowerByteFoldsExactlyASCIICaseSpec : ChangeSpec := { name := "fnLowerByteFoldsExactlyASCIICase", fn := fun _ => fun
  | [d] => { results := [.lit (.bool true)], args := [d] }
  | _ => none }
def fnLowerByteFoldsExactlyASCIICaseRow : OpenClaim := { program := "qxb6617864amods", sum := "4fd664baee69d372f493943d43bf35006f70f639fdc77ed4609601dbb850e57e", func := "example.com/muster/muster/zzlaws_sshca_b1.FnLowerByteFoldsExactlyASCIICase", spec := "fnLowerByteFoldsExactlyASCIICase", make := .lifted ["publicsums"], apart := false }
def FnLowerByteFoldsExactlyASCIICaseSaid : Prop := fnLowerByteFoldsExactlyASCIICaseRow.holds Trym.pinned (OpenSpec.ofChange fnLowerByteFoldsExactlyASCIICaseSpec)

/-- ITS FALSE NEIGHBOUR: 'it returns false'. Refute it at one input. -/
def fnLowerByteFoldsExactlyASCIICaseWrong : ChangeSpec := { name := "fnLowerByteFoldsExactlyASCIICase", fn := fun _ => fun
  | [d] => { results := [.lit (.bool false)], args := [d] }
  | _ => none }
def FnLowerByteFoldsExactlyASCIICaseWrongFalsely : Prop := fnLowerByteFoldsExactlyASCIICaseRow.holds Trym.pinned (OpenSpec.ofChange fnLowerByteFoldsExactlyASCIICaseWrong)

end Rows
end Go.Proofs.Qxb6617864aMods
