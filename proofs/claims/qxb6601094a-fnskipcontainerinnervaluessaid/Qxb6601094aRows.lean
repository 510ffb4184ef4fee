/-
  No cell of these rows narrows 'for every input' (looked for: loops, veiled, ifaces, maps, wideKeys, modest, calm, conditions, laid).
  DERIVED. THE GIVEN ROWS OF THIS SEAT. 6 by the template 'for every input the law returns true; each argument reads behind the call as it read before'; 0 by the template 'total and deterministic' (their statements: Qxb6601094aTotals.lean).
  GIVEN WITH THE SEED: the statements are not yours to turn. If you find one false, say at which input.
  Laid BY PROGRAM, IN A SANDBOX (cutbox-rows.mjs): the forced cells as the released guide's own fill.sh prints them over the translation 36a589b138bed595… (all of the seat's roots in one cut). By AI agents, Wed Nov 11 2026. No macro, syntax, notation, axiom, sorry.
-/
import Derived.Test.Qxb6601094aChecked
import GoSem.Claim
import GoSem.ClaimJoined
import GoSem.ClaimMapViews
import Derived.JoinedTies
import Derived.KernelRfl
namespace Go.Proofs.Qxb6601094a
/- THE CELL 'sum', in the pinned program and in every row, IS THE sha256 OF THE DUMP (.gsa) THAT Qxb6601094aProg.lean LOADS. Nothing in Lean hashes anything: it is a label: what it is worth is what the hold of that sum in a sandbox is worth. -/
noncomputable def Try.pinned : Pinned := { name := "qxb6601094a", sum := "36a589b138bed59555e877c526bf27302915f56e18eb50fe9153c166c93e52b4", checked := Try.checked }
namespace Rows
def none {H : Type} : Left H := { results := [], args := [] }

/-- 'zzlaws_internal_jsonobject_b1.FnSkipContainerEndsWhereBuilt': WHATEVER THE INPUT: true; the input reads as it did. -/
def fnSkipContainerEndsWhereBuiltSpec : ChangeSpec := { name := "fnSkipContainerEndsWhereBuilt", fn := fun _ => fun
  | [d1, d2, d3, d4, d5, d6] => { results := [.lit (.bool true)], args := [d1, d2, d3, d4, d5, d6] }
  | _ => none }
def fnSkipContainerEndsWhereBuiltRow : OpenClaim := { program := "qxb6601094a", sum := "36a589b138bed59555e877c526bf27302915f56e18eb50fe9153c166c93e52b4", func := "example.com/hengyue/hengyue/zzlaws_internal_jsonobject_b1.FnSkipContainerEndsWhereBuilt", spec := "fnSkipContainerEndsWhereBuilt", apart := false }
def FnSkipContainerEndsWhereBuiltSaid : Prop := fnSkipContainerEndsWhereBuiltRow.holds Try.pinned (OpenSpec.ofChange fnSkipContainerEndsWhereBuiltSpec)

/-- ITS FALSE NEIGHBOUR: 'it returns false'. Refute it at one input. -/
def fnSkipContainerEndsWhereBuiltWrong : ChangeSpec := { name := "fnSkipContainerEndsWhereBuilt", fn := fun _ => fun
  | [d1, d2, d3, d4, d5, d6] => { results := [.lit (.bool false)], args := [d1, d2, d3, d4, d5, d6] }
  | _ => none }
def FnSkipContainerEndsWhereBuiltWrongFalsely : Prop := fnSkipContainerEndsWhereBuiltRow.holds Try.pinned (OpenSpec.ofChange fnSkipContainerEndsWhereBuiltWrong)

/-- 'zzlaws_internal_jsonobject_b1.FnSkipContainerInnerValues': WHATEVER THE INPUT: true; the input reads as it did. -/
def fnSkipContainerInnerValuesSpec : ChangeSpec := { name := "fnSkipContainerInnerValues", fn := fun _ => fun
  | [d1, d2, d3, d4, d5, d6] => { results := [.lit (.bool true)], args := [d1, d2, d3, d4, d5, d6] }
  | _ => none }
def fnSkipContainerInnerValuesRow : OpenClaim := { program := "qxb6601094a", sum := "36a589b138bed59555e877c526bf27302915f56e18eb50fe9153c166c93e52b4", func := "example.com/hengyue/hengyue/zzlaws_internal_jsonobject_b1.FnSkipContainerInnerValues", spec := "fnSkipContainerInnerValues", apart := false }
def FnSkipContainerInnerValuesSaid : Prop := fnSkipContainerInnerValuesRow.holds Try.pinned (OpenSpec.ofChange fnSkipContainerInnerValuesSpec)

/-- ITS FALSE NEIGHBOUR: 'it returns false'. Refute it at one input. -/
def fnSkipContainerInnerValuesWrong : ChangeSpec := { name := "fnSkipContainerInnerValues", fn := fun _ => fun
  | [d1, d2, d3, d4, d5, d6] => { results := [.lit (.bool false)], args := [d1, d2, d3, d4, d5, d6] }
  | _ => none }
def FnSkipContainerInnerValuesWrongFalsely : Prop := fnSkipContainerInnerValuesRow.holds Try.pinned (OpenSpec.ofChange fnSkipContainerInnerValuesWrong)

/-- 'zzlaws_internal_jsonobject_b1.FnAppendEscapeIsJSONEscape': WHATEVER THE INPUT: true; the input reads as it did. -/
def fnAppendEscapeIsJSONEscapeSpec : ChangeSpec := { name := "fnAppendEscapeIsJSONEscape", fn := fun _ => fun
  | [d1, d2] => { results := [.lit (.bool true)], args := [d1, d2] }
  | _ => none }
def fnAppendEscapeIsJSONEscapeRow : OpenClaim := { program := "qxb6601094a", sum := "36a589b138bed59555e877c526bf27302915f56e18eb50fe9153c166c93e52b4", func := "example.com/hengyue/hengyue/zzlaws_internal_jsonobject_b1.FnAppendEscapeIsJSONEscape", spec := "fnAppendEscapeIsJSONEscape", apart := false }
def FnAppendEscapeIsJSONEscapeSaid : Prop := fnAppendEscapeIsJSONEscapeRow.holds Try.pinned (OpenSpec.ofChange fnAppendEscapeIsJSONEscapeSpec)

/-- ITS FALSE NEIGHBOUR: 'it returns false'. Refute it at one input. -/
def fnAppendEscapeIsJSONEscapeWrong : ChangeSpec := { name := "fnAppendEscapeIsJSONEscape", fn := fun _ => fun
  | [d1, d2] => { results := [.lit (.bool false)], args := [d1, d2] }
  | _ => none }
def FnAppendEscapeIsJSONEscapeWrongFalsely : Prop := fnAppendEscapeIsJSONEscapeRow.holds Try.pinned (OpenSpec.ofChange fnAppendEscapeIsJSONEscapeWrong)

/-- 'zzlaws_internal_jsonobject_b1.FnAppendEscapeInjectiveOnBMP': WHATEVER THE INPUT: true; the input reads as it did. -/
def fnAppendEscapeInjectiveOnBMPSpec : ChangeSpec := { name := "fnAppendEscapeInjectiveOnBMP", fn := fun _ => fun
  | [d1, d2] => { results := [.lit (.bool true)], args := [d1, d2] }
  | _ => none }
def fnAppendEscapeInjectiveOnBMPRow : OpenClaim := { program := "qxb6601094a", sum := "36a589b138bed59555e877c526bf27302915f56e18eb50fe9153c166c93e52b4", func := "example.com/hengyue/hengyue/zzlaws_internal_jsonobject_b1.FnAppendEscapeInjectiveOnBMP", spec := "fnAppendEscapeInjectiveOnBMP", apart := false }
def FnAppendEscapeInjectiveOnBMPSaid : Prop := fnAppendEscapeInjectiveOnBMPRow.holds Try.pinned (OpenSpec.ofChange fnAppendEscapeInjectiveOnBMPSpec)

/-- ITS FALSE NEIGHBOUR: 'it returns false'. Refute it at one input. -/
def fnAppendEscapeInjectiveOnBMPWrong : ChangeSpec := { name := "fnAppendEscapeInjectiveOnBMP", fn := fun _ => fun
  | [d1, d2] => { results := [.lit (.bool false)], args := [d1, d2] }
  | _ => none }
def FnAppendEscapeInjectiveOnBMPWrongFalsely : Prop := fnAppendEscapeInjectiveOnBMPRow.holds Try.pinned (OpenSpec.ofChange fnAppendEscapeInjectiveOnBMPWrong)

/-- 'zzlaws_internal_jsonobject_b1.FnLookupIsFirstOfName': WHATEVER THE INPUT: true; the input reads as it did. -/
def fnLookupIsFirstOfNameSpec : ChangeSpec := { name := "fnLookupIsFirstOfName", fn := fun _ => fun
  | [d1, d2] => { results := [.lit (.bool true)], args := [d1, d2] }
  | _ => none }
def fnLookupIsFirstOfNameRow : OpenClaim := { program := "qxb6601094a", sum := "36a589b138bed59555e877c526bf27302915f56e18eb50fe9153c166c93e52b4", func := "example.com/hengyue/hengyue/zzlaws_internal_jsonobject_b1.FnLookupIsFirstOfName", spec := "fnLookupIsFirstOfName", apart := false }
def FnLookupIsFirstOfNameSaid : Prop := fnLookupIsFirstOfNameRow.holds Try.pinned (OpenSpec.ofChange fnLookupIsFirstOfNameSpec)

/-- ITS FALSE NEIGHBOUR: 'it returns false'. Refute it at one input. -/
def fnLookupIsFirstOfNameWrong : ChangeSpec := { name := "fnLookupIsFirstOfName", fn := fun _ => fun
  | [d1, d2] => { results := [.lit (.bool false)], args := [d1, d2] }
  | _ => none }
def FnLookupIsFirstOfNameWrongFalsely : Prop := fnLookupIsFirstOfNameRow.holds Try.pinned (OpenSpec.ofChange fnLookupIsFirstOfNameWrong)

/-- 'zzlaws_internal_jsonobject_b1.FnLookupIndexAgreesWithScan': WHATEVER THE INPUT: true; the input reads as it did. -/
def fnLookupIndexAgreesWithScanSpec : ChangeSpec := { name := "fnLookupIndexAgreesWithScan", fn := fun _ => fun
  | [d1, d2] => { results := [.lit (.bool true)], args := [d1, d2] }
  | _ => none }
def fnLookupIndexAgreesWithScanRow : OpenClaim := { program := "qxb6601094a", sum := "36a589b138bed59555e877c526bf27302915f56e18eb50fe9153c166c93e52b4", func := "example.com/hengyue/hengyue/zzlaws_internal_jsonobject_b1.FnLookupIndexAgreesWithScan", spec := "fnLookupIndexAgreesWithScan", apart := false }
def FnLookupIndexAgreesWithScanSaid : Prop := fnLookupIndexAgreesWithScanRow.holds Try.pinned (OpenSpec.ofChange fnLookupIndexAgreesWithScanSpec)

/-- ITS FALSE NEIGHBOUR: 'it returns false'. Refute it at one input. -/
def fnLookupIndexAgreesWithScanWrong : ChangeSpec := { name := "fnLookupIndexAgreesWithScan", fn := fun _ => fun
  | [d1, d2] => { results := [.lit (.bool false)], args := [d1, d2] }
  | _ => none }
def FnLookupIndexAgreesWithScanWrongFalsely : Prop := fnLookupIndexAgreesWithScanRow.holds Try.pinned (OpenSpec.ofChange fnLookupIndexAgreesWithScanWrong)

end Rows
end Go.Proofs.Qxb6601094a
