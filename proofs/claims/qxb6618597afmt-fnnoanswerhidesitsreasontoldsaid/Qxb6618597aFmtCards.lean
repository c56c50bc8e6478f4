/-
  DERIVED. GIVEN WITH THE SEED: THE CARDS: each row of Qxb6618597aFmtRows.lean that lists a variable, with what it lists TIED to the program's text (the seventh form; the later family's looks); each row that meets fmt, with fmt's text TOLD by the authors' own Lean function (tested against real Go, not proved from fmt's source: count such statements apart). THE CARD IS WHAT COUNTS. Prove the row's statement (the work); the ties are given (Qxb6618597aFmtTie.lean); close each card by the builder's one call (the guide's Derived/Test/ToyasCard.lean, 'card_holds'). Laid BY PROGRAM, IN A SANDBOX (cutbox-door.mjs). By AI agents, Wed Nov 11 2026. No macro, syntax, notation, axiom, sorry.
-/
import Derived.Test.Qxb6618597aFmtRows
import GoSem.ClaimSeven
namespace Go.Proofs.Qxb6618597aFmt
namespace Rows

/-- THE TOLD AND TIED CARD OF 'zzlaws_internal_wire_b1.FnNoAnswerWrapsErrNoAnswer'. -/
def fnNoAnswerWrapsErrNoAnswerCard : Claim7 := { stood := { row := fnNoAnswerWrapsErrNoAnswerRow, standIns := [], harness := (true, "d989a39c76801c09b734f5e7ec1c4ef686cea5bf53c6c401fd6182bbf6add6a0"), looks := true }, told := true, laidByText := true, laidKinds := [.sentinel], laidTests := true, laidLooks := .later, goes := false }
def FnNoAnswerWrapsErrNoAnswerToldSaid : Prop := Claim7.holds Tryf.pinned (.plain (OpenSpec.ofChange fnNoAnswerWrapsErrNoAnswerSpec)) fnNoAnswerWrapsErrNoAnswerCard
/-- ITS FALSE NEIGHBOUR. Refute it at one input. -/
def FnNoAnswerWrapsErrNoAnswerToldWrongFalsely : Prop := Claim7.holds Tryf.pinned (.plain (OpenSpec.ofChange fnNoAnswerWrapsErrNoAnswerWrong)) fnNoAnswerWrapsErrNoAnswerCard

/-- THE TOLD AND TIED CARD OF 'zzlaws_internal_wire_b1.FnNoAnswerHidesItsReason'. -/
def fnNoAnswerHidesItsReasonCard : Claim7 := { stood := { row := fnNoAnswerHidesItsReasonRow, standIns := [], harness := (true, "d989a39c76801c09b734f5e7ec1c4ef686cea5bf53c6c401fd6182bbf6add6a0"), looks := true }, told := true, laidByText := true, laidKinds := [.sentinel], laidTests := true, laidLooks := .later, goes := false }
def FnNoAnswerHidesItsReasonToldSaid : Prop := Claim7.holds Tryf.pinned (.plain (OpenSpec.ofChange fnNoAnswerHidesItsReasonSpec)) fnNoAnswerHidesItsReasonCard
/-- ITS FALSE NEIGHBOUR. Refute it at one input. -/
def FnNoAnswerHidesItsReasonToldWrongFalsely : Prop := Claim7.holds Tryf.pinned (.plain (OpenSpec.ofChange fnNoAnswerHidesItsReasonWrong)) fnNoAnswerHidesItsReasonCard
end Rows
end Go.Proofs.Qxb6618597aFmt
