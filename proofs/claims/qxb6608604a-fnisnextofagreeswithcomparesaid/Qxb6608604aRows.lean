/-
  No cell of these rows narrows 'for every input' (looked for: loops, veiled, ifaces, maps, wideKeys, modest, calm, conditions, laid).
  DERIVED. THE GIVEN ROWS OF THIS SEAT. 4 by the template 'for every input the law returns true; each argument reads behind the call as it read before'; 0 by the template 'total and deterministic' (their statements: Qxb6608604aTotals.lean).
  GIVEN WITH THE SEED: the statements are not yours to turn. If you find one false, say at which input.
  Laid BY PROGRAM, IN A SANDBOX (cutbox-rows.mjs): the forced cells as the released guide's own fill.sh prints them over the translation 6539d8858f247963… (all of the seat's roots in one cut). By AI agents, Wed Nov 11 2026. No macro, syntax, notation, axiom, sorry.
-/
import Derived.Test.Qxb6608604aChecked
import GoSem.Claim
import GoSem.ClaimJoined
import GoSem.ClaimMapViews
import Derived.JoinedTies
import Derived.KernelRfl
namespace Go.Proofs.Qxb6608604a
/- THE CELL 'sum', in the pinned program and in every row, IS THE sha256 OF THE DUMP (.gsa) THAT Qxb6608604aProg.lean LOADS. Nothing in Lean hashes anything: it is a label: what it is worth is what the hold of that sum in a sandbox is worth. -/
noncomputable def Try.pinned : Pinned := { name := "qxb6608604a", sum := "6539d8858f247963d304c2bc1ea5d7a5fdf7081ddba0c3dac2314be1b4d25be0", checked := Try.checked }
namespace Rows
def none {H : Type} : Left H := { results := [], args := [] }

/-- 'zzlaws_root_b1.FnIsNextOfIsDecimalSuccessor': WHATEVER THE INPUT: true; the input reads as it did. -/
def fnIsNextOfIsDecimalSuccessorSpec : ChangeSpec := { name := "fnIsNextOfIsDecimalSuccessor", fn := fun _ => fun
  | [d1, d2, d3, d4] => { results := [.lit (.bool true)], args := [d1, d2, d3, d4] }
  | _ => none }
def fnIsNextOfIsDecimalSuccessorRow : OpenClaim := { program := "qxb6608604a", sum := "6539d8858f247963d304c2bc1ea5d7a5fdf7081ddba0c3dac2314be1b4d25be0", func := "example.com/verspan/verspan/zzlaws_root_b1.FnIsNextOfIsDecimalSuccessor", spec := "fnIsNextOfIsDecimalSuccessor", apart := false }
def FnIsNextOfIsDecimalSuccessorSaid : Prop := fnIsNextOfIsDecimalSuccessorRow.holds Try.pinned (OpenSpec.ofChange fnIsNextOfIsDecimalSuccessorSpec)

/-- ITS FALSE NEIGHBOUR: 'it returns false'. Refute it at one input. -/
def fnIsNextOfIsDecimalSuccessorWrong : ChangeSpec := { name := "fnIsNextOfIsDecimalSuccessor", fn := fun _ => fun
  | [d1, d2, d3, d4] => { results := [.lit (.bool false)], args := [d1, d2, d3, d4] }
  | _ => none }
def FnIsNextOfIsDecimalSuccessorWrongFalsely : Prop := fnIsNextOfIsDecimalSuccessorRow.holds Try.pinned (OpenSpec.ofChange fnIsNextOfIsDecimalSuccessorWrong)

/-- 'zzlaws_root_b1.FnIsNextOfAgreesWithCompare': WHATEVER THE INPUT: true; the input reads as it did. -/
def fnIsNextOfAgreesWithCompareSpec : ChangeSpec := { name := "fnIsNextOfAgreesWithCompare", fn := fun _ => fun
  | [d1, d2, d3, d4] => { results := [.lit (.bool true)], args := [d1, d2, d3, d4] }
  | _ => none }
def fnIsNextOfAgreesWithCompareRow : OpenClaim := { program := "qxb6608604a", sum := "6539d8858f247963d304c2bc1ea5d7a5fdf7081ddba0c3dac2314be1b4d25be0", func := "example.com/verspan/verspan/zzlaws_root_b1.FnIsNextOfAgreesWithCompare", spec := "fnIsNextOfAgreesWithCompare", inPlace := ["internal/bytealg.abigen_runtime_cmpstring"], apart := false }
def FnIsNextOfAgreesWithCompareSaid : Prop := fnIsNextOfAgreesWithCompareRow.holds Try.pinned (OpenSpec.ofChange fnIsNextOfAgreesWithCompareSpec)

/-- ITS FALSE NEIGHBOUR: 'it returns false'. Refute it at one input. -/
def fnIsNextOfAgreesWithCompareWrong : ChangeSpec := { name := "fnIsNextOfAgreesWithCompare", fn := fun _ => fun
  | [d1, d2, d3, d4] => { results := [.lit (.bool false)], args := [d1, d2, d3, d4] }
  | _ => none }
def FnIsNextOfAgreesWithCompareWrongFalsely : Prop := fnIsNextOfAgreesWithCompareRow.holds Try.pinned (OpenSpec.ofChange fnIsNextOfAgreesWithCompareWrong)

/-- 'zzlaws_root_b1.FnSameReleaseAgreesWithCompare': WHATEVER THE INPUT: true; the input reads as it did. -/
def fnSameReleaseAgreesWithCompareSpec : ChangeSpec := { name := "fnSameReleaseAgreesWithCompare", fn := fun _ => fun
  | [d1, d2, d3, d4, d5, d6, d7, d8, d9, d10, d11, d12] => { results := [.lit (.bool true)], args := [d1, d2, d3, d4, d5, d6, d7, d8, d9, d10, d11, d12] }
  | _ => none }
def fnSameReleaseAgreesWithCompareRow : OpenClaim := { program := "qxb6608604a", sum := "6539d8858f247963d304c2bc1ea5d7a5fdf7081ddba0c3dac2314be1b4d25be0", func := "example.com/verspan/verspan/zzlaws_root_b1.FnSameReleaseAgreesWithCompare", spec := "fnSameReleaseAgreesWithCompare", inPlace := ["internal/bytealg.abigen_runtime_cmpstring"], apart := false }
def FnSameReleaseAgreesWithCompareSaid : Prop := fnSameReleaseAgreesWithCompareRow.holds Try.pinned (OpenSpec.ofChange fnSameReleaseAgreesWithCompareSpec)

/-- ITS FALSE NEIGHBOUR: 'it returns false'. Refute it at one input. -/
def fnSameReleaseAgreesWithCompareWrong : ChangeSpec := { name := "fnSameReleaseAgreesWithCompare", fn := fun _ => fun
  | [d1, d2, d3, d4, d5, d6, d7, d8, d9, d10, d11, d12] => { results := [.lit (.bool false)], args := [d1, d2, d3, d4, d5, d6, d7, d8, d9, d10, d11, d12] }
  | _ => none }
def FnSameReleaseAgreesWithCompareWrongFalsely : Prop := fnSameReleaseAgreesWithCompareRow.holds Try.pinned (OpenSpec.ofChange fnSameReleaseAgreesWithCompareWrong)

/-- 'zzlaws_root_b1.FnSameReleaseSymmetricAndSeesPatch': WHATEVER THE INPUT: true; the input reads as it did. -/
def fnSameReleaseSymmetricAndSeesPatchSpec : ChangeSpec := { name := "fnSameReleaseSymmetricAndSeesPatch", fn := fun _ => fun
  | [d1, d2, d3, d4, d5, d6, d7, d8, d9, d10, d11, d12] => { results := [.lit (.bool true)], args := [d1, d2, d3, d4, d5, d6, d7, d8, d9, d10, d11, d12] }
  | _ => none }
def fnSameReleaseSymmetricAndSeesPatchRow : OpenClaim := { program := "qxb6608604a", sum := "6539d8858f247963d304c2bc1ea5d7a5fdf7081ddba0c3dac2314be1b4d25be0", func := "example.com/verspan/verspan/zzlaws_root_b1.FnSameReleaseSymmetricAndSeesPatch", spec := "fnSameReleaseSymmetricAndSeesPatch", inPlace := ["internal/bytealg.abigen_runtime_cmpstring"], apart := false }
def FnSameReleaseSymmetricAndSeesPatchSaid : Prop := fnSameReleaseSymmetricAndSeesPatchRow.holds Try.pinned (OpenSpec.ofChange fnSameReleaseSymmetricAndSeesPatchSpec)

/-- ITS FALSE NEIGHBOUR: 'it returns false'. Refute it at one input. -/
def fnSameReleaseSymmetricAndSeesPatchWrong : ChangeSpec := { name := "fnSameReleaseSymmetricAndSeesPatch", fn := fun _ => fun
  | [d1, d2, d3, d4, d5, d6, d7, d8, d9, d10, d11, d12] => { results := [.lit (.bool false)], args := [d1, d2, d3, d4, d5, d6, d7, d8, d9, d10, d11, d12] }
  | _ => none }
def FnSameReleaseSymmetricAndSeesPatchWrongFalsely : Prop := fnSameReleaseSymmetricAndSeesPatchRow.holds Try.pinned (OpenSpec.ofChange fnSameReleaseSymmetricAndSeesPatchWrong)

end Rows
end Go.Proofs.Qxb6608604a
