/-
  No cell of these rows narrows 'for every input' (looked for: loops, veiled, ifaces, maps, wideKeys, modest, calm, conditions, laid).
  DERIVED. THE GIVEN ROWS OF THIS SEAT. 1 by the template 'for every input the law returns true; each argument reads behind the call as it read before'; 0 by the template 'total and deterministic' (their statements: Qxb6604320aModsTotals.lean).
  GIVEN WITH THE SEED: the statements are not yours to turn. If you find one false, say at which input.
  Laid BY PROGRAM, IN A SANDBOX (cutbox-rows.mjs): the forced cells as the released guide's own fill.sh prints them over the translation 90fbce376f5e64f4… (all of the seat's roots in one cut). By AI agents, Wed Nov 11 2026. No macro, syntax, notation, axiom, sorry.
-/
import Derived.Test.Qxb6604320aModsChecked
import GoSem.Claim
import GoSem.ClaimJoined
import GoSem.ClaimMapViews
import Derived.JoinedTies
import Derived.KernelRfl
namespace Go.Proofs.Qxb6604320aMods
/- THE CELL 'sum', in the pinned program and in every row, IS THE sha256 OF THE DUMP (.gsa) THAT Qxb6604320aModsProg.lean LOADS. Nothing in Lean hashes anything: it is a label: what it is worth is what the hold of that sum in a sandbox is worth. -/
noncomputable def Trym.pinned : Pinned := { name := "qxb6604320amods", sum := "90fbce376f5e64f4b466d371d40d3e85cbafdfa068f4de05e784e29ed7233064", checked := Trym.checked }
namespace Rows
def none {H : Type} : Left H := { results := [], args := [] }

/-- 'zzlaws_internal_upstream_b1.FnForOpenFilesIsGreatestCountThatFits': WHATEVER THE INPUT: true; the input reads as it did. -/
def fnForOpenFilesIsGreatestCountThatFitsSpec : ChangeSpec := { name := "fnForOpenFilesIsGreatestCountThatFits", fn := fun _ => fun
  | [d1, d2] => { results := [.lit (.bool true)], args := [d1, d2] }
  | _ => none }
def fnForOpenFilesIsGreatestCountThatFitsRow : OpenClaim := { program := "qxb6604320amods", sum := "90fbce376f5e64f4b466d371d40d3e85cbafdfa068f4de05e784e29ed7233064", func := "example.com/riverfork/riverfork/zzlaws_internal_upstream_b1.FnForOpenFilesIsGreatestCountThatFits", spec := "fnForOpenFilesIsGreatestCountThatFits", make := .lifted ["publicsums"], apart := false }
def FnForOpenFilesIsGreatestCountThatFitsSaid : Prop := fnForOpenFilesIsGreatestCountThatFitsRow.holds Trym.pinned (OpenSpec.ofChange fnForOpenFilesIsGreatestCountThatFitsSpec)

/-- ITS FALSE NEIGHBOUR: 'it returns false'. Refute it at one input. -/
def fnForOpenFilesIsGreatestCountThatFitsWrong : ChangeSpec := { name := "fnForOpenFilesIsGreatestCountThatFits", fn := fun _ => fun
  | [d1, d2] => { results := [.lit (.bool false)], args := [d1, d2] }
  | _ => none }
def FnForOpenFilesIsGreatestCountThatFitsWrongFalsely : Prop := fnForOpenFilesIsGreatestCountThatFitsRow.holds Trym.pinned (OpenSpec.ofChange fnForOpenFilesIsGreatestCountThatFitsWrong)

end Rows
end Go.Proofs.Qxb6604320aMods
