/-
  NARROWER THAN 'FOR EVERY INPUT', by the rows' own cells (each row's printed sentence says how): FnNoAnswerWrapsErrNoAnswer: ifaces, laid · FnNoAnswerHidesItsReason: ifaces, laid.
  DERIVED. THE GIVEN ROWS OF THIS SEAT. 2 by the template 'for every input the law returns true; each argument reads behind the call as it read before'; 0 by the template 'total and deterministic' (their statements: Qxb6618597aFmtTotals.lean).
  GIVEN WITH THE SEED: the statements are not yours to turn. If you find one false, say at which input.
  Laid BY PROGRAM, IN A SANDBOX (cutbox-rows.mjs): the forced cells as the released guide's own fill.sh prints them over the translation 5ac47aae4055d63d… (all of the seat's roots in one cut). By AI agents, Wed Nov 11 2026. No macro, syntax, notation, axiom, sorry.
-/
import Derived.Test.Qxb6618597aFmtChecked
import GoSem.Claim
import GoSem.ClaimJoined
import GoSem.ClaimMapViews
import Derived.JoinedTies
import Derived.KernelRfl
namespace Go.Proofs.Qxb6618597aFmt
/- THE CELL 'sum', in the pinned program and in every row, IS THE sha256 OF THE DUMP (.gsa) THAT Qxb6618597aFmtProg.lean LOADS. Nothing in Lean hashes anything: it is a label: what it is worth is what the hold of that sum in a sandbox is worth. -/
noncomputable def Tryf.pinned : Pinned := { name := "qxb6618597afmt", sum := "5ac47aae4055d63d0641bd7f535b00836649ec417215e8338187bdcd07ebdfd9", checked := Tryf.checked }
namespace Rows
def none {H : Type} : Left H := { results := [], args := [] }

/- WHAT THE LISTED PACKAGE-LEVEL VARIABLES READ AS WHEN THE CALL BEGINS. Each datum BY PROGRAM (the guide's laid-datum.mjs) off the statement by which the dump's own 'gosem.cut.vars' lays the variable. In a bare row this is a premise. The card (Qxb6618597aFmtCards.lean) ties it to the program's text. -/
def laid_example_com_sluicegate_sluicegate_internal_wire_ErrNoAnswer {H : Type} : DataW H := .iface "*errors.errorString" (.ptr (.agg [.lit (.string [110, 111, 32, 97, 110, 115, 119, 101, 114])]))

/-- 'zzlaws_internal_wire_b1.FnNoAnswerWrapsErrNoAnswer': WHATEVER THE INPUT: true; the input reads as it did. -/
def fnNoAnswerWrapsErrNoAnswerSpec : ChangeSpec := { name := "fnNoAnswerWrapsErrNoAnswer", vars := ["example.com/sluicegate/sluicegate/internal/wire.ErrNoAnswer"], fn := fun _ => fun
  | [d1, d2, d3, d4, g1] => { results := [.lit (.bool true)], args := [d1, d2, d3, d4], vars := [g1] }
  | _ => none }
def fnNoAnswerWrapsErrNoAnswerRow : OpenClaim := { program := "qxb6618597afmt", sum := "5ac47aae4055d63d0641bd7f535b00836649ec417215e8338187bdcd07ebdfd9", func := "example.com/sluicegate/sluicegate/zzlaws_internal_wire_b1.FnNoAnswerWrapsErrNoAnswer", spec := "fnNoAnswerWrapsErrNoAnswer", stops := ["fmt.errorf"], inPlace := ["fmt.errorf", "internal/reflectlite.TypeOf"], unfollowed := true, recurses := true, named := ["example.com/sluicegate/sluicegate/internal/wire.ErrNoAnswer"], ifaces := true, apart := false, laid := [("example.com/sluicegate/sluicegate/internal/wire.ErrNoAnswer", laid_example_com_sluicegate_sluicegate_internal_wire_ErrNoAnswer)] }
/-- NO THEOREM (fmt's text is open here; it may be false): for the released tool's asking of the row's closed facts alone. THE STATEMENT IS 'FnNoAnswerWrapsErrNoAnswerToldSaid' (Qxb6618597aFmtCards.lean). -/
def FnNoAnswerWrapsErrNoAnswerFormAsk : Prop := fnNoAnswerWrapsErrNoAnswerRow.holds Tryf.pinned (OpenSpec.ofChange fnNoAnswerWrapsErrNoAnswerSpec)

/-- ITS FALSE NEIGHBOUR: 'it returns false'. Refute it at one input. -/
def fnNoAnswerWrapsErrNoAnswerWrong : ChangeSpec := { name := "fnNoAnswerWrapsErrNoAnswer", vars := ["example.com/sluicegate/sluicegate/internal/wire.ErrNoAnswer"], fn := fun _ => fun
  | [d1, d2, d3, d4, g1] => { results := [.lit (.bool false)], args := [d1, d2, d3, d4], vars := [g1] }
  | _ => none }
def FnNoAnswerWrapsErrNoAnswerWrongFormAsk : Prop := fnNoAnswerWrapsErrNoAnswerRow.holds Tryf.pinned (OpenSpec.ofChange fnNoAnswerWrapsErrNoAnswerWrong)

/-- 'zzlaws_internal_wire_b1.FnNoAnswerHidesItsReason': WHATEVER THE INPUT: true; the input reads as it did. -/
def fnNoAnswerHidesItsReasonSpec : ChangeSpec := { name := "fnNoAnswerHidesItsReason", vars := ["example.com/sluicegate/sluicegate/internal/wire.ErrNoAnswer"], fn := fun _ => fun
  | [d1, d2, d3, d4, g1] => { results := [.lit (.bool true)], args := [d1, d2, d3, d4], vars := [g1] }
  | _ => none }
def fnNoAnswerHidesItsReasonRow : OpenClaim := { program := "qxb6618597afmt", sum := "5ac47aae4055d63d0641bd7f535b00836649ec417215e8338187bdcd07ebdfd9", func := "example.com/sluicegate/sluicegate/zzlaws_internal_wire_b1.FnNoAnswerHidesItsReason", spec := "fnNoAnswerHidesItsReason", stops := ["fmt.errorf"], inPlace := ["fmt.errorf", "internal/reflectlite.TypeOf"], unfollowed := true, recurses := true, named := ["example.com/sluicegate/sluicegate/internal/wire.ErrNoAnswer"], ifaces := true, apart := false, laid := [("example.com/sluicegate/sluicegate/internal/wire.ErrNoAnswer", laid_example_com_sluicegate_sluicegate_internal_wire_ErrNoAnswer)] }
/-- NO THEOREM (fmt's text is open here; it may be false): for the released tool's asking of the row's closed facts alone. THE STATEMENT IS 'FnNoAnswerHidesItsReasonToldSaid' (Qxb6618597aFmtCards.lean). -/
def FnNoAnswerHidesItsReasonFormAsk : Prop := fnNoAnswerHidesItsReasonRow.holds Tryf.pinned (OpenSpec.ofChange fnNoAnswerHidesItsReasonSpec)

/-- ITS FALSE NEIGHBOUR: 'it returns false'. Refute it at one input. -/
def fnNoAnswerHidesItsReasonWrong : ChangeSpec := { name := "fnNoAnswerHidesItsReason", vars := ["example.com/sluicegate/sluicegate/internal/wire.ErrNoAnswer"], fn := fun _ => fun
  | [d1, d2, d3, d4, g1] => { results := [.lit (.bool false)], args := [d1, d2, d3, d4], vars := [g1] }
  | _ => none }
def FnNoAnswerHidesItsReasonWrongFormAsk : Prop := fnNoAnswerHidesItsReasonRow.holds Tryf.pinned (OpenSpec.ofChange fnNoAnswerHidesItsReasonWrong)

end Rows
end Go.Proofs.Qxb6618597aFmt
