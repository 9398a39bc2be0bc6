/-
  No cell of these rows narrows 'for every input' (looked for: loops, veiled, ifaces, maps, wideKeys, modest, calm, conditions, laid).
  DERIVED. THE GIVEN ROWS OF THIS SEAT. 6 by the template 'for every input the law returns true; each argument reads behind the call as it read before'; 0 by the template 'total and deterministic' (their statements: Qxb6000688aModsTotals.lean).
  GIVEN WITH THE SEED: the statements are not yours to turn. If you find one false, say at which input.
  Laid BY PROGRAM, IN A SANDBOX (cutbox-rows.mjs): the forced cells as the released guide's own fill.sh prints them over the translation 0f439befa4499a70… (all of the seat's roots in one cut). By AI agents, Wed Nov 11 2026. No macro, syntax, notation, axiom, sorry.
-/
import Derived.Test.Qxb6000688aModsChecked
import GoSem.Claim
import GoSem.ClaimJoined
import GoSem.ClaimMapViews
import Derived.JoinedTies
import Derived.KernelRfl
namespace Go.Proofs.Qxb6000688aMods
/- THE CELL 'sum', in the pinned program and in every row, IS THE sha256 OF THE DUMP (.gsa) THAT Qxb6000688aModsProg.lean LOADS. Nothing in Lean hashes anything: it is a label: what it is worth is what the hold of that sum in a sandbox is worth. -/
noncomputable def Trym.pinned : Pinned := { name := "qxb6000688amods", sum := "0f439befa4499a700a7f818afd62f3834a000dc84ac044df561f82534d073430", checked := Trym.checked }
namespace Rows
def none {H : Type} : Left H := { results := [], args := [] }

/-- 'zzlaws_internal_review_b1.FnScanEscapeBounds': WHATEVER THE INPUT: true; the input reads as it did. -/
def fnScanEscapeBoundsSpec : ChangeSpec := { name := "fnScanEscapeBounds", fn := fun _ => fun
  | [d1, d2] => { results := [.lit (.bool true)], args := [d1, d2] }
  | _ => none }
def fnScanEscapeBoundsRow : OpenClaim := { program := "qxb6000688amods", sum := "0f439befa4499a700a7f818afd62f3834a000dc84ac044df561f82534d073430", func := "example.com/rulebridge/rulebridge/zzlaws_internal_review_b1.FnScanEscapeBounds", spec := "fnScanEscapeBounds", make := .lifted ["publicsums"], apart := false }
def FnScanEscapeBoundsSaid : Prop := fnScanEscapeBoundsRow.holds Trym.pinned (OpenSpec.ofChange fnScanEscapeBoundsSpec)

/-- ITS FALSE NEIGHBOUR: 'it returns false'. Refute it at one input. -/
def fnScanEscapeBoundsWrong : ChangeSpec := { name := "fnScanEscapeBounds", fn := fun _ => fun
  | [d1, d2] => { results := [.lit (.bool false)], args := [d1, d2] }
  | _ => none }
def FnScanEscapeBoundsWrongFalsely : Prop := fnScanEscapeBoundsRow.holds Trym.pinned (OpenSpec.ofChange fnScanEscapeBoundsWrong)

/-- 'zzlaws_internal_review_b1.FnScanEscapeExtensionStable': WHATEVER THE INPUT: true; the input reads as it did. -/
def fnScanEscapeExtensionStableSpec : ChangeSpec := { name := "fnScanEscapeExtensionStable", fn := fun _ => fun
  | [d1, d2, d3] => { results := [.lit (.bool true)], args := [d1, d2, d3] }
  | _ => none }
def fnScanEscapeExtensionStableRow : OpenClaim := { program := "qxb6000688amods", sum := "0f439befa4499a700a7f818afd62f3834a000dc84ac044df561f82534d073430", func := "example.com/rulebridge/rulebridge/zzlaws_internal_review_b1.FnScanEscapeExtensionStable", spec := "fnScanEscapeExtensionStable", make := .lifted ["publicsums"], apart := false }
def FnScanEscapeExtensionStableSaid : Prop := fnScanEscapeExtensionStableRow.holds Trym.pinned (OpenSpec.ofChange fnScanEscapeExtensionStableSpec)

/-- ITS FALSE NEIGHBOUR: 'it returns false'. Refute it at one input. -/
def fnScanEscapeExtensionStableWrong : ChangeSpec := { name := "fnScanEscapeExtensionStable", fn := fun _ => fun
  | [d1, d2, d3] => { results := [.lit (.bool false)], args := [d1, d2, d3] }
  | _ => none }
def FnScanEscapeExtensionStableWrongFalsely : Prop := fnScanEscapeExtensionStableRow.holds Trym.pinned (OpenSpec.ofChange fnScanEscapeExtensionStableWrong)

/-- 'zzlaws_internal_review_b1.FnScanEscapePrefixesTruncate': WHATEVER THE INPUT: true; the input reads as it did. -/
def fnScanEscapePrefixesTruncateSpec : ChangeSpec := { name := "fnScanEscapePrefixesTruncate", fn := fun _ => fun
  | [d1, d2] => { results := [.lit (.bool true)], args := [d1, d2] }
  | _ => none }
def fnScanEscapePrefixesTruncateRow : OpenClaim := { program := "qxb6000688amods", sum := "0f439befa4499a700a7f818afd62f3834a000dc84ac044df561f82534d073430", func := "example.com/rulebridge/rulebridge/zzlaws_internal_review_b1.FnScanEscapePrefixesTruncate", spec := "fnScanEscapePrefixesTruncate", make := .lifted ["publicsums"], apart := false }
def FnScanEscapePrefixesTruncateSaid : Prop := fnScanEscapePrefixesTruncateRow.holds Trym.pinned (OpenSpec.ofChange fnScanEscapePrefixesTruncateSpec)

/-- ITS FALSE NEIGHBOUR: 'it returns false'. Refute it at one input. -/
def fnScanEscapePrefixesTruncateWrong : ChangeSpec := { name := "fnScanEscapePrefixesTruncate", fn := fun _ => fun
  | [d1, d2] => { results := [.lit (.bool false)], args := [d1, d2] }
  | _ => none }
def FnScanEscapePrefixesTruncateWrongFalsely : Prop := fnScanEscapePrefixesTruncateRow.holds Trym.pinned (OpenSpec.ofChange fnScanEscapePrefixesTruncateWrong)

/-- 'zzlaws_internal_review_b1.FnScanNumberMatchesAutomaton': WHATEVER THE INPUT: true; the input reads as it did. -/
def fnScanNumberMatchesAutomatonSpec : ChangeSpec := { name := "fnScanNumberMatchesAutomaton", fn := fun _ => fun
  | [d1, d2] => { results := [.lit (.bool true)], args := [d1, d2] }
  | _ => none }
def fnScanNumberMatchesAutomatonRow : OpenClaim := { program := "qxb6000688amods", sum := "0f439befa4499a700a7f818afd62f3834a000dc84ac044df561f82534d073430", func := "example.com/rulebridge/rulebridge/zzlaws_internal_review_b1.FnScanNumberMatchesAutomaton", spec := "fnScanNumberMatchesAutomaton", make := .lifted ["publicsums"], apart := false }
def FnScanNumberMatchesAutomatonSaid : Prop := fnScanNumberMatchesAutomatonRow.holds Trym.pinned (OpenSpec.ofChange fnScanNumberMatchesAutomatonSpec)

/-- ITS FALSE NEIGHBOUR: 'it returns false'. Refute it at one input. -/
def fnScanNumberMatchesAutomatonWrong : ChangeSpec := { name := "fnScanNumberMatchesAutomaton", fn := fun _ => fun
  | [d1, d2] => { results := [.lit (.bool false)], args := [d1, d2] }
  | _ => none }
def FnScanNumberMatchesAutomatonWrongFalsely : Prop := fnScanNumberMatchesAutomatonRow.holds Trym.pinned (OpenSpec.ofChange fnScanNumberMatchesAutomatonWrong)

/-- 'zzlaws_internal_review_b1.FnScanNumberExtensionStable': WHATEVER THE INPUT: true; the input reads as it did. -/
def fnScanNumberExtensionStableSpec : ChangeSpec := { name := "fnScanNumberExtensionStable", fn := fun _ => fun
  | [d1, d2, d3] => { results := [.lit (.bool true)], args := [d1, d2, d3] }
  | _ => none }
def fnScanNumberExtensionStableRow : OpenClaim := { program := "qxb6000688amods", sum := "0f439befa4499a700a7f818afd62f3834a000dc84ac044df561f82534d073430", func := "example.com/rulebridge/rulebridge/zzlaws_internal_review_b1.FnScanNumberExtensionStable", spec := "fnScanNumberExtensionStable", make := .lifted ["publicsums"], apart := false }
def FnScanNumberExtensionStableSaid : Prop := fnScanNumberExtensionStableRow.holds Trym.pinned (OpenSpec.ofChange fnScanNumberExtensionStableSpec)

/-- ITS FALSE NEIGHBOUR: 'it returns false'. Refute it at one input. -/
def fnScanNumberExtensionStableWrong : ChangeSpec := { name := "fnScanNumberExtensionStable", fn := fun _ => fun
  | [d1, d2, d3] => { results := [.lit (.bool false)], args := [d1, d2, d3] }
  | _ => none }
def FnScanNumberExtensionStableWrongFalsely : Prop := fnScanNumberExtensionStableRow.holds Trym.pinned (OpenSpec.ofChange fnScanNumberExtensionStableWrong)

/-- 'zzlaws_internal_review_b1.FnScanNumberMinusSign': WHATEVER THE INPUT: true; the input reads as it did. -/
def fnScanNumberMinusSignSpec : ChangeSpec := { name := "fnScanNumberMinusSign", fn := fun _ => fun
  | [d1, d2] => { results := [.lit (.bool true)], args := [d1, d2] }
  | _ => none }
def fnScanNumberMinusSignRow : OpenClaim := { program := "qxb6000688amods", sum := "0f439befa4499a700a7f818afd62f3834a000dc84ac044df561f82534d073430", func := "example.com/rulebridge/rulebridge/zzlaws_internal_review_b1.FnScanNumberMinusSign", spec := "fnScanNumberMinusSign", make := .lifted ["publicsums"], apart := false }
def FnScanNumberMinusSignSaid : Prop := fnScanNumberMinusSignRow.holds Trym.pinned (OpenSpec.ofChange fnScanNumberMinusSignSpec)

/-- ITS FALSE NEIGHBOUR: 'it returns false'. Refute it at one input. -/
def fnScanNumberMinusSignWrong : ChangeSpec := { name := "fnScanNumberMinusSign", fn := fun _ => fun
  | [d1, d2] => { results := [.lit (.bool false)], args := [d1, d2] }
  | _ => none }
def FnScanNumberMinusSignWrongFalsely : Prop := fnScanNumberMinusSignRow.holds Trym.pinned (OpenSpec.ofChange fnScanNumberMinusSignWrong)

end Rows
end Go.Proofs.Qxb6000688aMods
