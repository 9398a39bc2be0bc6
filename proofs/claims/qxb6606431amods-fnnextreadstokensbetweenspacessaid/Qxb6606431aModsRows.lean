/-
  No cell of these rows narrows 'for every input' (looked for: loops, veiled, ifaces, maps, wideKeys, modest, calm, conditions, laid).
  DERIVED. THE GIVEN ROWS OF THIS SEAT. 3 by the template 'for every input the law returns true; each argument reads behind the call as it read before'; 0 by the template 'total and deterministic' (their statements: Qxb6606431aModsTotals.lean).
  GIVEN WITH THE SEED: the statements are not yours to turn. If you find one false, say at which input.
  Laid BY PROGRAM, IN A SANDBOX (cutbox-rows.mjs): the forced cells as the released guide's own fill.sh prints them over the translation aa9f9e664c4ee2ae… (all of the seat's roots in one cut). By AI agents, Wed Nov 11 2026. No macro, syntax, notation, axiom, sorry.
-/
import Derived.Test.Qxb6606431aModsChecked
import GoSem.Claim
import GoSem.ClaimJoined
import GoSem.ClaimMapViews
import Derived.JoinedTies
import Derived.KernelRfl
namespace Go.Proofs.Qxb6606431aMods
/- THE CELL 'sum', in the pinned program and in every row, IS THE sha256 OF THE DUMP (.gsa) THAT Qxb6606431aModsProg.lean LOADS. Nothing in Lean hashes anything: it is a label: what it is worth is what the hold of that sum in a sandbox is worth. -/
noncomputable def Trym.pinned : Pinned := { name := "qxb6606431amods", sum := "aa9f9e664c4ee2ae185f7c3a7e8877e783f8375ca044910029d2a2f788ade5b7", checked := Trym.checked }
namespace Rows
def none {H : Type} : Left H := { results := [], args := [] }

/-- 'zzlaws_internal_api_b1.FnNextIsFirstNonSpace': WHATEVER THE INPUT: true; the input reads as it did. -/
def fnNextIsFirstNonSpaceSpec : ChangeSpec := { name := "fnNextIsFirstNonSpace", fn := fun _ => fun
  | [d1, d2] => { results := [.lit (.bool true)], args := [d1, d2] }
  | _ => none }
def fnNextIsFirstNonSpaceRow : OpenClaim := { program := "qxb6606431amods", sum := "aa9f9e664c4ee2ae185f7c3a7e8877e783f8375ca044910029d2a2f788ade5b7", func := "example.com/concordat/concordat/zzlaws_internal_api_b1.FnNextIsFirstNonSpace", spec := "fnNextIsFirstNonSpace", make := .lifted ["publicsums"], apart := false }
def FnNextIsFirstNonSpaceSaid : Prop := fnNextIsFirstNonSpaceRow.holds Trym.pinned (OpenSpec.ofChange fnNextIsFirstNonSpaceSpec)

/-- ITS FALSE NEIGHBOUR: 'it returns false'. Refute it at one input. -/
def fnNextIsFirstNonSpaceWrong : ChangeSpec := { name := "fnNextIsFirstNonSpace", fn := fun _ => fun
  | [d1, d2] => { results := [.lit (.bool false)], args := [d1, d2] }
  | _ => none }
def FnNextIsFirstNonSpaceWrongFalsely : Prop := fnNextIsFirstNonSpaceRow.holds Trym.pinned (OpenSpec.ofChange fnNextIsFirstNonSpaceWrong)

/-- 'zzlaws_internal_api_b1.FnNextIsIdempotent': WHATEVER THE INPUT: true; the input reads as it did. -/
def fnNextIsIdempotentSpec : ChangeSpec := { name := "fnNextIsIdempotent", fn := fun _ => fun
  | [d1, d2] => { results := [.lit (.bool true)], args := [d1, d2] }
  | _ => none }
def fnNextIsIdempotentRow : OpenClaim := { program := "qxb6606431amods", sum := "aa9f9e664c4ee2ae185f7c3a7e8877e783f8375ca044910029d2a2f788ade5b7", func := "example.com/concordat/concordat/zzlaws_internal_api_b1.FnNextIsIdempotent", spec := "fnNextIsIdempotent", make := .lifted ["publicsums"], apart := false }
def FnNextIsIdempotentSaid : Prop := fnNextIsIdempotentRow.holds Trym.pinned (OpenSpec.ofChange fnNextIsIdempotentSpec)

/-- ITS FALSE NEIGHBOUR: 'it returns false'. Refute it at one input. -/
def fnNextIsIdempotentWrong : ChangeSpec := { name := "fnNextIsIdempotent", fn := fun _ => fun
  | [d1, d2] => { results := [.lit (.bool false)], args := [d1, d2] }
  | _ => none }
def FnNextIsIdempotentWrongFalsely : Prop := fnNextIsIdempotentRow.holds Trym.pinned (OpenSpec.ofChange fnNextIsIdempotentWrong)

/-- 'zzlaws_internal_api_b1.FnNextReadsTokensBetweenSpaces': WHATEVER THE INPUT: true; the input reads as it did. -/
def fnNextReadsTokensBetweenSpacesSpec : ChangeSpec := { name := "fnNextReadsTokensBetweenSpaces", fn := fun _ => fun
  | [d1, d2] => { results := [.lit (.bool true)], args := [d1, d2] }
  | _ => none }
def fnNextReadsTokensBetweenSpacesRow : OpenClaim := { program := "qxb6606431amods", sum := "aa9f9e664c4ee2ae185f7c3a7e8877e783f8375ca044910029d2a2f788ade5b7", func := "example.com/concordat/concordat/zzlaws_internal_api_b1.FnNextReadsTokensBetweenSpaces", spec := "fnNextReadsTokensBetweenSpaces", make := .lifted ["publicsums"], apart := false }
def FnNextReadsTokensBetweenSpacesSaid : Prop := fnNextReadsTokensBetweenSpacesRow.holds Trym.pinned (OpenSpec.ofChange fnNextReadsTokensBetweenSpacesSpec)

/-- ITS FALSE NEIGHBOUR: 'it returns false'. Refute it at one input. -/
def fnNextReadsTokensBetweenSpacesWrong : ChangeSpec := { name := "fnNextReadsTokensBetweenSpaces", fn := fun _ => fun
  | [d1, d2] => { results := [.lit (.bool false)], args := [d1, d2] }
  | _ => none }
def FnNextReadsTokensBetweenSpacesWrongFalsely : Prop := fnNextReadsTokensBetweenSpacesRow.holds Trym.pinned (OpenSpec.ofChange fnNextReadsTokensBetweenSpacesWrong)

end Rows
end Go.Proofs.Qxb6606431aMods
