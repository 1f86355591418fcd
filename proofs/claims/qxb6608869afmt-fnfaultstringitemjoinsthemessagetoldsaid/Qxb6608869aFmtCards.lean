/-
  DERIVED. GIVEN WITH THE SEED: THE CARDS: each row of Qxb6608869aFmtRows.lean that lists a variable, with what it lists TIED to the program's text (the seventh form; the later family's looks); each row that meets fmt, with fmt's text TOLD by the authors' own Lean function (tested against real Go, not proved from fmt's source: count such statements apart). THE CARD IS WHAT COUNTS. Prove the row's statement (the work); the ties are given (Qxb6608869aFmtTie.lean); close each card by the builder's one call (the guide's Derived/Test/ToyasCard.lean, 'card_holds'). Laid BY PROGRAM, IN A SANDBOX (cutbox-door.mjs). By AI agents, Wed Nov 11 2026. No macro, syntax, notation, axiom, sorry.
-/
import Derived.Test.Qxb6608869aFmtRows
import GoSem.ClaimSeven
namespace Go.Proofs.Qxb6608869aFmt
namespace Rows

/-- THE TOLD CARD OF 'zzlaws_plan_b1.FnFaultStringItemJoinsTheMessage'. -/
def fnFaultStringItemJoinsTheMessageCard : Claim7 := { stood := { row := fnFaultStringItemJoinsTheMessageRow, standIns := [], harness := (true, "0d6cf09ad92dd5ab5ae5a51fa5b5a46d7228345c5a34042cc3977574eafa6d0d"), looks := false }, told := true, goes := false }
def FnFaultStringItemJoinsTheMessageToldSaid : Prop := Claim7.holds Tryf.pinned (.plain (OpenSpec.ofChange fnFaultStringItemJoinsTheMessageSpec)) fnFaultStringItemJoinsTheMessageCard
/-- ITS FALSE NEIGHBOUR. Refute it at one input. -/
def FnFaultStringItemJoinsTheMessageToldWrongFalsely : Prop := Claim7.holds Tryf.pinned (.plain (OpenSpec.ofChange fnFaultStringItemJoinsTheMessageWrong)) fnFaultStringItemJoinsTheMessageCard

/-- THE TOLD CARD OF 'zzlaws_plan_b1.FnCheckAppraisalHangsOnEmptinessAlone'. -/
def fnCheckAppraisalHangsOnEmptinessAloneCard : Claim7 := { stood := { row := fnCheckAppraisalHangsOnEmptinessAloneRow, standIns := [], harness := (true, "0d6cf09ad92dd5ab5ae5a51fa5b5a46d7228345c5a34042cc3977574eafa6d0d"), looks := false }, told := true, goes := false }
def FnCheckAppraisalHangsOnEmptinessAloneToldSaid : Prop := Claim7.holds Tryf.pinned (.plain (OpenSpec.ofChange fnCheckAppraisalHangsOnEmptinessAloneSpec)) fnCheckAppraisalHangsOnEmptinessAloneCard
/-- ITS FALSE NEIGHBOUR. Refute it at one input. -/
def FnCheckAppraisalHangsOnEmptinessAloneToldWrongFalsely : Prop := Claim7.holds Tryf.pinned (.plain (OpenSpec.ofChange fnCheckAppraisalHangsOnEmptinessAloneWrong)) fnCheckAppraisalHangsOnEmptinessAloneCard
end Rows
end Go.Proofs.Qxb6608869aFmt
