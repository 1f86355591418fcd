/-
  No cell of these rows narrows 'for every input' (looked for: loops, veiled, ifaces, maps, wideKeys, modest, calm, conditions, laid).
  DERIVED. THE GIVEN ROWS OF THIS SEAT. 2 by the template 'for every input the law returns true; each argument reads behind the call as it read before'; 0 by the template 'total and deterministic' (their statements: Qxb6608869aFmtTotals.lean).
  GIVEN WITH THE SEED: the statements are not yours to turn. If you find one false, say at which input.
  Laid BY PROGRAM, IN A SANDBOX (cutbox-rows.mjs): the forced cells as the released guide's own fill.sh prints them over the translation 71ec93b6a75dc3f0… (all of the seat's roots in one cut). By AI agents, Wed Nov 11 2026. No macro, syntax, notation, axiom, sorry.
-/
import Derived.Test.Qxb6608869aFmtChecked
import GoSem.Claim
import GoSem.ClaimJoined
import GoSem.ClaimMapViews
import Derived.JoinedTies
import Derived.KernelRfl
namespace Go.Proofs.Qxb6608869aFmt
/- THE CELL 'sum', in the pinned program and in every row, IS THE sha256 OF THE DUMP (.gsa) THAT Qxb6608869aFmtProg.lean LOADS. Nothing in Lean hashes anything: it is a label: what it is worth is what the hold of that sum in a sandbox is worth. -/
noncomputable def Tryf.pinned : Pinned := { name := "qxb6608869afmt", sum := "71ec93b6a75dc3f089f1cd26ae4038a3ee7d85444dca25636c89b70d50bccbbf", checked := Tryf.checked }
namespace Rows
def none {H : Type} : Left H := { results := [], args := [] }

/-- 'zzlaws_plan_b1.FnFaultStringItemJoinsTheMessage': WHATEVER THE INPUT: true; the input reads as it did. -/
def fnFaultStringItemJoinsTheMessageSpec : ChangeSpec := { name := "fnFaultStringItemJoinsTheMessage", fn := fun _ => fun
  | [d1, d2, d3] => { results := [.lit (.bool true)], args := [d1, d2, d3] }
  | _ => none }
def fnFaultStringItemJoinsTheMessageRow : OpenClaim := { program := "qxb6608869afmt", sum := "71ec93b6a75dc3f089f1cd26ae4038a3ee7d85444dca25636c89b70d50bccbbf", func := "example.com/vestwright/vestwright/zzlaws_plan_b1.FnFaultStringItemJoinsTheMessage", spec := "fnFaultStringItemJoinsTheMessage", stops := ["fmt.Sprintf", "fmt.errorf"], inPlace := ["fmt.Sprintf"], apart := false }
/-- NO THEOREM (fmt's text is open here; it may be false): for the released tool's asking of the row's closed facts alone. THE STATEMENT IS 'FnFaultStringItemJoinsTheMessageToldSaid' (Qxb6608869aFmtCards.lean). -/
def FnFaultStringItemJoinsTheMessageFormAsk : Prop := fnFaultStringItemJoinsTheMessageRow.holds Tryf.pinned (OpenSpec.ofChange fnFaultStringItemJoinsTheMessageSpec)

/-- ITS FALSE NEIGHBOUR: 'it returns false'. Refute it at one input. -/
def fnFaultStringItemJoinsTheMessageWrong : ChangeSpec := { name := "fnFaultStringItemJoinsTheMessage", fn := fun _ => fun
  | [d1, d2, d3] => { results := [.lit (.bool false)], args := [d1, d2, d3] }
  | _ => none }
def FnFaultStringItemJoinsTheMessageWrongFormAsk : Prop := fnFaultStringItemJoinsTheMessageRow.holds Tryf.pinned (OpenSpec.ofChange fnFaultStringItemJoinsTheMessageWrong)

/-- 'zzlaws_plan_b1.FnCheckAppraisalHangsOnEmptinessAlone': WHATEVER THE INPUT: true; the input reads as it did. -/
def fnCheckAppraisalHangsOnEmptinessAloneSpec : ChangeSpec := { name := "fnCheckAppraisalHangsOnEmptinessAlone", fn := fun _ => fun
  | [d1, d2, d3, d4] => { results := [.lit (.bool true)], args := [d1, d2, d3, d4] }
  | _ => none }
def fnCheckAppraisalHangsOnEmptinessAloneRow : OpenClaim := { program := "qxb6608869afmt", sum := "71ec93b6a75dc3f089f1cd26ae4038a3ee7d85444dca25636c89b70d50bccbbf", func := "example.com/vestwright/vestwright/zzlaws_plan_b1.FnCheckAppraisalHangsOnEmptinessAlone", spec := "fnCheckAppraisalHangsOnEmptinessAlone", stops := ["fmt.Sprintf", "fmt.errorf"], inPlace := ["fmt.errorf"], apart := false }
/-- NO THEOREM (fmt's text is open here; it may be false): for the released tool's asking of the row's closed facts alone. THE STATEMENT IS 'FnCheckAppraisalHangsOnEmptinessAloneToldSaid' (Qxb6608869aFmtCards.lean). -/
def FnCheckAppraisalHangsOnEmptinessAloneFormAsk : Prop := fnCheckAppraisalHangsOnEmptinessAloneRow.holds Tryf.pinned (OpenSpec.ofChange fnCheckAppraisalHangsOnEmptinessAloneSpec)

/-- ITS FALSE NEIGHBOUR: 'it returns false'. Refute it at one input. -/
def fnCheckAppraisalHangsOnEmptinessAloneWrong : ChangeSpec := { name := "fnCheckAppraisalHangsOnEmptinessAlone", fn := fun _ => fun
  | [d1, d2, d3, d4] => { results := [.lit (.bool false)], args := [d1, d2, d3, d4] }
  | _ => none }
def FnCheckAppraisalHangsOnEmptinessAloneWrongFormAsk : Prop := fnCheckAppraisalHangsOnEmptinessAloneRow.holds Tryf.pinned (OpenSpec.ofChange fnCheckAppraisalHangsOnEmptinessAloneWrong)

end Rows
end Go.Proofs.Qxb6608869aFmt
