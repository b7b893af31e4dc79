/-
  No cell of these rows narrows 'for every input' (looked for: loops, veiled, ifaces, maps, wideKeys, modest, calm, conditions, laid).
  DERIVED. THE GIVEN ROWS OF THIS SEAT. 2 by the template 'for every input the law returns true; each argument reads behind the call as it read before'; 0 by the template 'total and deterministic' (their statements: Qxb6617782aModsTotals.lean).
  GIVEN WITH THE SEED: the statements are not yours to turn. If you find one false, say at which input.
  Laid BY PROGRAM, IN A SANDBOX (cutbox-rows.mjs): the forced cells as the released guide's own fill.sh prints them over the translation 2dcf8e1d6b0f8eea… (all of the seat's roots in one cut). By AI agents, Wed Nov 11 2026. No macro, syntax, notation, axiom, sorry.
-/
import Derived.Test.Qxb6617782aModsChecked
import GoSem.Claim
import GoSem.ClaimJoined
import GoSem.ClaimMapViews
import Derived.JoinedTies
import Derived.KernelRfl
namespace Go.Proofs.Qxb6617782aMods
/- THE CELL 'sum', in the pinned program and in every row, IS THE sha256 OF THE DUMP (.gsa) THAT Qxb6617782aModsProg.lean LOADS. Nothing in Lean hashes anything: it is a label: what it is worth is what the hold of that sum in a sandbox is worth. -/
noncomputable def Trym.pinned : Pinned := { name := "qxb6617782amods", sum := "2dcf8e1d6b0f8eea5e50e4f5eba30ef59ddf826cf419c7f089dc00b8f963ef2f", checked := Trym.checked }
namespace Rows
def none {H : Type} : Left H := { results := [], args := [] }

/-- 'zzlaws_scheduler_b1.FnNameHashGivesBackItsSeed': WHATEVER THE INPUT: true; the input reads as it did. -/
def fnNameHashGivesBackItsSeedSpec : ChangeSpec := { name := "fnNameHashGivesBackItsSeed", fn := fun _ => fun
  | [d1, d2] => { results := [.lit (.bool true)], args := [d1, d2] }
  | _ => none }
def fnNameHashGivesBackItsSeedRow : OpenClaim := { program := "qxb6617782amods", sum := "2dcf8e1d6b0f8eea5e50e4f5eba30ef59ddf826cf419c7f089dc00b8f963ef2f", func := "example.com/cadre/cadre/zzlaws_scheduler_b1.FnNameHashGivesBackItsSeed", spec := "fnNameHashGivesBackItsSeed", make := .lifted ["publicsums"], apart := false }
def FnNameHashGivesBackItsSeedSaid : Prop := fnNameHashGivesBackItsSeedRow.holds Trym.pinned (OpenSpec.ofChange fnNameHashGivesBackItsSeedSpec)

/-- ITS FALSE NEIGHBOUR: 'it returns false'. Refute it at one input. -/
def fnNameHashGivesBackItsSeedWrong : ChangeSpec := { name := "fnNameHashGivesBackItsSeed", fn := fun _ => fun
  | [d1, d2] => { results := [.lit (.bool false)], args := [d1, d2] }
  | _ => none }
def FnNameHashGivesBackItsSeedWrongFalsely : Prop := fnNameHashGivesBackItsSeedRow.holds Trym.pinned (OpenSpec.ofChange fnNameHashGivesBackItsSeedWrong)

/-- 'zzlaws_scheduler_b1.FnNameHashFeelsItsEndBytes': WHATEVER THE INPUT: true; the input reads as it did. -/
def fnNameHashFeelsItsEndBytesSpec : ChangeSpec := { name := "fnNameHashFeelsItsEndBytes", fn := fun _ => fun
  | [d1, d2, d3, d4] => { results := [.lit (.bool true)], args := [d1, d2, d3, d4] }
  | _ => none }
def fnNameHashFeelsItsEndBytesRow : OpenClaim := { program := "qxb6617782amods", sum := "2dcf8e1d6b0f8eea5e50e4f5eba30ef59ddf826cf419c7f089dc00b8f963ef2f", func := "example.com/cadre/cadre/zzlaws_scheduler_b1.FnNameHashFeelsItsEndBytes", spec := "fnNameHashFeelsItsEndBytes", make := .lifted ["publicsums"], apart := false }
def FnNameHashFeelsItsEndBytesSaid : Prop := fnNameHashFeelsItsEndBytesRow.holds Trym.pinned (OpenSpec.ofChange fnNameHashFeelsItsEndBytesSpec)

/-- ITS FALSE NEIGHBOUR: 'it returns false'. Refute it at one input. -/
def fnNameHashFeelsItsEndBytesWrong : ChangeSpec := { name := "fnNameHashFeelsItsEndBytes", fn := fun _ => fun
  | [d1, d2, d3, d4] => { results := [.lit (.bool false)], args := [d1, d2, d3, d4] }
  | _ => none }
def FnNameHashFeelsItsEndBytesWrongFalsely : Prop := fnNameHashFeelsItsEndBytesRow.holds Trym.pinned (OpenSpec.ofChange fnNameHashFeelsItsEndBytesWrong)

end Rows
end Go.Proofs.Qxb6617782aMods
