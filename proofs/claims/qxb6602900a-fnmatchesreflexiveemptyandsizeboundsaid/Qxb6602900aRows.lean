/-
  No cell of these rows narrows 'for every input' (looked for: loops, veiled, ifaces, maps, wideKeys, modest, calm, conditions, laid).
  DERIVED. THE GIVEN ROWS OF THIS SEAT. 4 by the template 'for every input the law returns true; each argument reads behind the call as it read before'; 0 by the template 'total and deterministic' (their statements: Qxb6602900aTotals.lean).
  GIVEN WITH THE SEED: the statements are not yours to turn. If you find one false, say at which input.
  Laid BY PROGRAM, IN A SANDBOX (cutbox-rows.mjs): the forced cells as the released guide's own fill.sh prints them over the translation d0f41ef12a661c90… (all of the seat's roots in one cut). By AI agents, Wed Nov 11 2026. No macro, syntax, notation, axiom, sorry.
-/
import Derived.Test.Qxb6602900aChecked
import GoSem.Claim
import GoSem.ClaimJoined
import GoSem.ClaimMapViews
import Derived.JoinedTies
import Derived.KernelRfl
namespace Go.Proofs.Qxb6602900a
/- THE CELL 'sum', in the pinned program and in every row, IS THE sha256 OF THE DUMP (.gsa) THAT Qxb6602900aProg.lean LOADS. Nothing in Lean hashes anything: it is a label: what it is worth is what the hold of that sum in a sandbox is worth. -/
noncomputable def Try.pinned : Pinned := { name := "qxb6602900a", sum := "d0f41ef12a661c90ceed9c560d2e77eb529b0f8a4f27c052641e58f56baed569", checked := Try.checked }
namespace Rows
def none {H : Type} : Left H := { results := [], args := [] }

/-- 'zzlaws_pkg_descriptor_b1.FnMatchesTransitive': WHATEVER THE INPUT: true; the input reads as it did. -/
def fnMatchesTransitiveSpec : ChangeSpec := { name := "fnMatchesTransitive", fn := fun _ => fun
  | [d1, d2, d3, d4, d5, d6] => { results := [.lit (.bool true)], args := [d1, d2, d3, d4, d5, d6] }
  | _ => none }
def fnMatchesTransitiveRow : OpenClaim := { program := "qxb6602900a", sum := "d0f41ef12a661c90ceed9c560d2e77eb529b0f8a4f27c052641e58f56baed569", func := "example.com/lading/lading/zzlaws_pkg_descriptor_b1.FnMatchesTransitive", spec := "fnMatchesTransitive", apart := false }
def FnMatchesTransitiveSaid : Prop := fnMatchesTransitiveRow.holds Try.pinned (OpenSpec.ofChange fnMatchesTransitiveSpec)

/-- ITS FALSE NEIGHBOUR: 'it returns false'. Refute it at one input. -/
def fnMatchesTransitiveWrong : ChangeSpec := { name := "fnMatchesTransitive", fn := fun _ => fun
  | [d1, d2, d3, d4, d5, d6] => { results := [.lit (.bool false)], args := [d1, d2, d3, d4, d5, d6] }
  | _ => none }
def FnMatchesTransitiveWrongFalsely : Prop := fnMatchesTransitiveRow.holds Try.pinned (OpenSpec.ofChange fnMatchesTransitiveWrong)

/-- 'zzlaws_pkg_descriptor_b1.FnMatchesReflexiveEmptyAndSizeBound': WHATEVER THE INPUT: true; the input reads as it did. -/
def fnMatchesReflexiveEmptyAndSizeBoundSpec : ChangeSpec := { name := "fnMatchesReflexiveEmptyAndSizeBound", fn := fun _ => fun
  | [d1, d2, d3, d4] => { results := [.lit (.bool true)], args := [d1, d2, d3, d4] }
  | _ => none }
def fnMatchesReflexiveEmptyAndSizeBoundRow : OpenClaim := { program := "qxb6602900a", sum := "d0f41ef12a661c90ceed9c560d2e77eb529b0f8a4f27c052641e58f56baed569", func := "example.com/lading/lading/zzlaws_pkg_descriptor_b1.FnMatchesReflexiveEmptyAndSizeBound", spec := "fnMatchesReflexiveEmptyAndSizeBound", apart := false }
def FnMatchesReflexiveEmptyAndSizeBoundSaid : Prop := fnMatchesReflexiveEmptyAndSizeBoundRow.holds Try.pinned (OpenSpec.ofChange fnMatchesReflexiveEmptyAndSizeBoundSpec)

/-- ITS FALSE NEIGHBOUR: 'it returns false'. Refute it at one input. -/
def fnMatchesReflexiveEmptyAndSizeBoundWrong : ChangeSpec := { name := "fnMatchesReflexiveEmptyAndSizeBound", fn := fun _ => fun
  | [d1, d2, d3, d4] => { results := [.lit (.bool false)], args := [d1, d2, d3, d4] }
  | _ => none }
def FnMatchesReflexiveEmptyAndSizeBoundWrongFalsely : Prop := fnMatchesReflexiveEmptyAndSizeBoundRow.holds Try.pinned (OpenSpec.ofChange fnMatchesReflexiveEmptyAndSizeBoundWrong)

/-- 'zzlaws_pkg_descriptor_b1.FnJoinPathMonoid': WHATEVER THE INPUT: true; the input reads as it did. -/
def fnJoinPathMonoidSpec : ChangeSpec := { name := "fnJoinPathMonoid", fn := fun _ => fun
  | [d1, d2, d3] => { results := [.lit (.bool true)], args := [d1, d2, d3] }
  | _ => none }
def fnJoinPathMonoidRow : OpenClaim := { program := "qxb6602900a", sum := "d0f41ef12a661c90ceed9c560d2e77eb529b0f8a4f27c052641e58f56baed569", func := "example.com/lading/lading/zzlaws_pkg_descriptor_b1.FnJoinPathMonoid", spec := "fnJoinPathMonoid", apart := false }
def FnJoinPathMonoidSaid : Prop := fnJoinPathMonoidRow.holds Try.pinned (OpenSpec.ofChange fnJoinPathMonoidSpec)

/-- ITS FALSE NEIGHBOUR: 'it returns false'. Refute it at one input. -/
def fnJoinPathMonoidWrong : ChangeSpec := { name := "fnJoinPathMonoid", fn := fun _ => fun
  | [d1, d2, d3] => { results := [.lit (.bool false)], args := [d1, d2, d3] }
  | _ => none }
def FnJoinPathMonoidWrongFalsely : Prop := fnJoinPathMonoidRow.holds Try.pinned (OpenSpec.ofChange fnJoinPathMonoidWrong)

/-- 'zzlaws_pkg_descriptor_b1.FnJoinPathSplitsAtLastDot': WHATEVER THE INPUT: true; the input reads as it did. -/
def fnJoinPathSplitsAtLastDotSpec : ChangeSpec := { name := "fnJoinPathSplitsAtLastDot", fn := fun _ => fun
  | [d1, d2] => { results := [.lit (.bool true)], args := [d1, d2] }
  | _ => none }
def fnJoinPathSplitsAtLastDotRow : OpenClaim := { program := "qxb6602900a", sum := "d0f41ef12a661c90ceed9c560d2e77eb529b0f8a4f27c052641e58f56baed569", func := "example.com/lading/lading/zzlaws_pkg_descriptor_b1.FnJoinPathSplitsAtLastDot", spec := "fnJoinPathSplitsAtLastDot", apart := false }
def FnJoinPathSplitsAtLastDotSaid : Prop := fnJoinPathSplitsAtLastDotRow.holds Try.pinned (OpenSpec.ofChange fnJoinPathSplitsAtLastDotSpec)

/-- ITS FALSE NEIGHBOUR: 'it returns false'. Refute it at one input. -/
def fnJoinPathSplitsAtLastDotWrong : ChangeSpec := { name := "fnJoinPathSplitsAtLastDot", fn := fun _ => fun
  | [d1, d2] => { results := [.lit (.bool false)], args := [d1, d2] }
  | _ => none }
def FnJoinPathSplitsAtLastDotWrongFalsely : Prop := fnJoinPathSplitsAtLastDotRow.holds Try.pinned (OpenSpec.ofChange fnJoinPathSplitsAtLastDotWrong)

end Rows
end Go.Proofs.Qxb6602900a
