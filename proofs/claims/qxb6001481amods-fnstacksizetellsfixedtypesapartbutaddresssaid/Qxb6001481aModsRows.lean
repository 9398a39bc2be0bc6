/-
  No cell of these rows narrows 'for every input' (looked for: loops, veiled, ifaces, maps, wideKeys, modest, calm, conditions, laid).
  DERIVED. THE GIVEN ROWS OF THIS SEAT. 2 by the template 'for every input the law returns true; each argument reads behind the call as it read before'; 0 by the template 'total and deterministic' (their statements: Qxb6001481aModsTotals.lean).
  GIVEN WITH THE SEED: the statements are not yours to turn. If you find one false, say at which input.
  Laid BY PROGRAM, IN A SANDBOX (cutbox-rows.mjs): the forced cells as the released guide's own fill.sh prints them over the translation 59e4bc621f7c2bcf… (all of the seat's roots in one cut). By AI agents, Wed Nov 11 2026. No macro, syntax, notation, axiom, sorry.
-/
import Derived.Test.Qxb6001481aModsChecked
import GoSem.Claim
import GoSem.ClaimJoined
import GoSem.ClaimMapViews
import Derived.JoinedTies
import Derived.KernelRfl
namespace Go.Proofs.Qxb6001481aMods
/- THE CELL 'sum', in the pinned program and in every row, IS THE sha256 OF THE DUMP (.gsa) THAT Qxb6001481aModsProg.lean LOADS. Nothing in Lean hashes anything: it is a label: what it is worth is what the hold of that sum in a sandbox is worth. -/
noncomputable def Trym.pinned : Pinned := { name := "qxb6001481amods", sum := "59e4bc621f7c2bcffa432bc6dc23f222acb596a1b5b363840208ae245ac66bf7", checked := Trym.checked }
namespace Rows
def none {H : Type} : Left H := { results := [], args := [] }

/-- 'zzlaws_root_b1.FnStackSizeStrictlyIncreasingOverByteWidths': WHATEVER THE INPUT: true; the input reads as it did. -/
def fnStackSizeStrictlyIncreasingOverByteWidthsSpec : ChangeSpec := { name := "fnStackSizeStrictlyIncreasingOverByteWidths", fn := fun _ => fun
  | [d1, d2] => { results := [.lit (.bool true)], args := [d1, d2] }
  | _ => none }
def fnStackSizeStrictlyIncreasingOverByteWidthsRow : OpenClaim := { program := "qxb6001481amods", sum := "59e4bc621f7c2bcffa432bc6dc23f222acb596a1b5b363840208ae245ac66bf7", func := "example.com/stackwright/stackwright/zzlaws_root_b1.FnStackSizeStrictlyIncreasingOverByteWidths", spec := "fnStackSizeStrictlyIncreasingOverByteWidths", make := .lifted ["publicsums"], apart := false }
def FnStackSizeStrictlyIncreasingOverByteWidthsSaid : Prop := fnStackSizeStrictlyIncreasingOverByteWidthsRow.holds Trym.pinned (OpenSpec.ofChange fnStackSizeStrictlyIncreasingOverByteWidthsSpec)

/-- ITS FALSE NEIGHBOUR: 'it returns false'. Refute it at one input. -/
def fnStackSizeStrictlyIncreasingOverByteWidthsWrong : ChangeSpec := { name := "fnStackSizeStrictlyIncreasingOverByteWidths", fn := fun _ => fun
  | [d1, d2] => { results := [.lit (.bool false)], args := [d1, d2] }
  | _ => none }
def FnStackSizeStrictlyIncreasingOverByteWidthsWrongFalsely : Prop := fnStackSizeStrictlyIncreasingOverByteWidthsRow.holds Trym.pinned (OpenSpec.ofChange fnStackSizeStrictlyIncreasingOverByteWidthsWrong)

/-- 'zzlaws_root_b1.FnStackSizeTellsFixedTypesApartButAddress': WHATEVER THE INPUT: true; the input reads as it did. -/
def fnStackSizeTellsFixedTypesApartButAddressSpec : ChangeSpec := { name := "fnStackSizeTellsFixedTypesApartButAddress", fn := fun _ => fun
  | [d1, d2] => { results := [.lit (.bool true)], args := [d1, d2] }
  | _ => none }
def fnStackSizeTellsFixedTypesApartButAddressRow : OpenClaim := { program := "qxb6001481amods", sum := "59e4bc621f7c2bcffa432bc6dc23f222acb596a1b5b363840208ae245ac66bf7", func := "example.com/stackwright/stackwright/zzlaws_root_b1.FnStackSizeTellsFixedTypesApartButAddress", spec := "fnStackSizeTellsFixedTypesApartButAddress", make := .lifted ["publicsums"], apart := false }
def FnStackSizeTellsFixedTypesApartButAddressSaid : Prop := fnStackSizeTellsFixedTypesApartButAddressRow.holds Trym.pinned (OpenSpec.ofChange fnStackSizeTellsFixedTypesApartButAddressSpec)

/-- ITS FALSE NEIGHBOUR: 'it returns false'. Refute it at one input. -/
def fnStackSizeTellsFixedTypesApartButAddressWrong : ChangeSpec := { name := "fnStackSizeTellsFixedTypesApartButAddress", fn := fun _ => fun
  | [d1, d2] => { results := [.lit (.bool false)], args := [d1, d2] }
  | _ => none }
def FnStackSizeTellsFixedTypesApartButAddressWrongFalsely : Prop := fnStackSizeTellsFixedTypesApartButAddressRow.holds Trym.pinned (OpenSpec.ofChange fnStackSizeTellsFixedTypesApartButAddressWrong)

end Rows
end Go.Proofs.Qxb6001481aMods
