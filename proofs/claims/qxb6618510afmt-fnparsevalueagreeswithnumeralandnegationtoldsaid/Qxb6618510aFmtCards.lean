/-
  DERIVED. GIVEN WITH THE SEED: THE CARDS: each row of Qxb6618510aFmtRows.lean that lists a variable, with what it lists TIED to the program's text (the seventh form; the later family's looks); each row that meets fmt, with fmt's text TOLD by the authors' own Lean function (tested against real Go, not proved from fmt's source: count such statements apart). THE CARD IS WHAT COUNTS. Prove the row's statement (the work); the ties are given (Qxb6618510aFmtTie.lean); close each card by the builder's one call (the guide's Derived/Test/ToyasCard.lean, 'card_holds'). Laid BY PROGRAM, IN A SANDBOX (cutbox-door.mjs). By AI agents, Wed Nov 11 2026. No macro, syntax, notation, axiom, sorry.
-/
import Derived.Test.Qxb6618510aFmtRows
import GoSem.ClaimSeven
namespace Go.Proofs.Qxb6618510aFmt
namespace Rows

/-- THE TOLD AND TIED CARD OF 'zzlaws_internal_history_b1.FnParseValueAgreesWithNumeralAndNegation'. -/
def fnParseValueAgreesWithNumeralAndNegationCard : Claim7 := { stood := { row := fnParseValueAgreesWithNumeralAndNegationRow, standIns := [], harness := (true, "7963cc275f03598c5a2138bda574ca5f617a3fc62103ef5d6e6f9eea6fa10b51"), looks := true }, told := true, laidByText := true, laidKinds := [.data, .data, .data, .sentinel, .sentinel], laidTests := true, laidLooks := .later, goes := false }
def FnParseValueAgreesWithNumeralAndNegationToldSaid : Prop := Claim7.holds Tryf.pinned (.plain (OpenSpec.ofChange fnParseValueAgreesWithNumeralAndNegationSpec)) fnParseValueAgreesWithNumeralAndNegationCard
/-- ITS FALSE NEIGHBOUR. Refute it at one input. -/
def FnParseValueAgreesWithNumeralAndNegationToldWrongFalsely : Prop := Claim7.holds Tryf.pinned (.plain (OpenSpec.ofChange fnParseValueAgreesWithNumeralAndNegationWrong)) fnParseValueAgreesWithNumeralAndNegationCard

/-- THE TOLD AND TIED CARD OF 'zzlaws_internal_history_b1.FnParseValueAppendDigit'. -/
def fnParseValueAppendDigitCard : Claim7 := { stood := { row := fnParseValueAppendDigitRow, standIns := [], harness := (true, "7963cc275f03598c5a2138bda574ca5f617a3fc62103ef5d6e6f9eea6fa10b51"), looks := true }, told := true, laidByText := true, laidKinds := [.data, .data, .data, .sentinel, .sentinel], laidTests := true, laidLooks := .later, goes := false }
def FnParseValueAppendDigitToldSaid : Prop := Claim7.holds Tryf.pinned (.plain (OpenSpec.ofChange fnParseValueAppendDigitSpec)) fnParseValueAppendDigitCard
/-- ITS FALSE NEIGHBOUR. Refute it at one input. -/
def FnParseValueAppendDigitToldWrongFalsely : Prop := Claim7.holds Tryf.pinned (.plain (OpenSpec.ofChange fnParseValueAppendDigitWrong)) fnParseValueAppendDigitCard
end Rows
end Go.Proofs.Qxb6618510aFmt
