/-
  NARROWER THAN 'FOR EVERY INPUT', by the rows' own cells (each row's printed sentence says how): FnRemoveProvideUntilRefusedRemovesEvery: loops, ifaces, laid.
  DERIVED. THE GIVEN ROWS OF THIS SEAT. 1 by the template 'for every input the law returns true; each argument reads behind the call as it read before'; 0 by the template 'total and deterministic' (their statements: Qxb6618615aDoorTotals.lean).
  GIVEN WITH THE SEED: the statements are not yours to turn. If you find one false, say at which input.
  Laid BY PROGRAM, IN A SANDBOX (cutbox-rows.mjs): the forced cells as the released guide's own fill.sh prints them over the translation a6fe936b9cf271f9… (all of the seat's roots in one cut). By AI agents, Wed Nov 11 2026. No macro, syntax, notation, axiom, sorry.
-/
import Derived.Test.Qxb6618615aDoorChecked
import GoSem.Claim
import GoSem.ClaimJoined
import GoSem.ClaimMapViews
import Derived.JoinedTies
import Derived.KernelRfl
namespace Go.Proofs.Qxb6618615aDoor
/- THE CELL 'sum', in the pinned program and in every row, IS THE sha256 OF THE DUMP (.gsa) THAT Qxb6618615aDoorProg.lean LOADS. Nothing in Lean hashes anything: it is a label: what it is worth is what the hold of that sum in a sandbox is worth. -/
noncomputable def Tryd.pinned : Pinned := { name := "qxb6618615adoor", sum := "a6fe936b9cf271f982c2d56df750aaac295cd4ecf50f0a830bf54142c472e389", checked := Tryd.checked }
namespace Rows
def none {H : Type} : Left H := { results := [], args := [] }

/- WHAT THE LISTED PACKAGE-LEVEL VARIABLES READ AS WHEN THE CALL BEGINS. Each datum BY PROGRAM (the guide's laid-datum.mjs) off the statement by which the dump's own 'gosem.cut.vars' lays the variable. In a bare row this is a premise. The card (Qxb6618615aDoorCards.lean) ties it to the program's text. -/
def laid_example_com_orrery_orrery_ErrNoAnchor {H : Type} : DataW H := .iface "*errors.errorString" (.ptr (.agg [.lit (.string [111, 114, 114, 101, 114, 121, 58, 32, 110, 111, 32, 115, 117, 99, 104, 32, 97, 110, 99, 104, 111, 114])]))

/-- 'zzlaws_root_b1.FnRemoveProvideUntilRefusedRemovesEvery': WHATEVER THE INPUT: true; the input reads as it did. -/
def fnRemoveProvideUntilRefusedRemovesEverySpec : ChangeSpec := { name := "fnRemoveProvideUntilRefusedRemovesEvery", vars := ["example.com/orrery/orrery.ErrNoAnchor"], fn := fun _ => fun
  | [d1, d2, g1] => { results := [.lit (.bool true)], args := [d1, d2], vars := [g1] }
  | _ => none }
def fnRemoveProvideUntilRefusedRemovesEveryRow : OpenClaim := { program := "qxb6618615adoor", sum := "a6fe936b9cf271f982c2d56df750aaac295cd4ecf50f0a830bf54142c472e389", func := "example.com/orrery/orrery/zzlaws_root_b1.FnRemoveProvideUntilRefusedRemovesEvery", spec := "fnRemoveProvideUntilRefusedRemovesEvery", unfollowed := true, recurses := true, named := ["encoding/binary.BigEndian", "example.com/orrery/orrery.ErrNoAnchor"], ifaces := true, loops := true, apart := false, laid := [("example.com/orrery/orrery.ErrNoAnchor", laid_example_com_orrery_orrery_ErrNoAnchor)] }
def FnRemoveProvideUntilRefusedRemovesEverySaid : Prop := fnRemoveProvideUntilRefusedRemovesEveryRow.holds Tryd.pinned (OpenSpec.ofChange fnRemoveProvideUntilRefusedRemovesEverySpec)

/-- ITS FALSE NEIGHBOUR: 'it returns false'. Refute it at one input. -/
def fnRemoveProvideUntilRefusedRemovesEveryWrong : ChangeSpec := { name := "fnRemoveProvideUntilRefusedRemovesEvery", vars := ["example.com/orrery/orrery.ErrNoAnchor"], fn := fun _ => fun
  | [d1, d2, g1] => { results := [.lit (.bool false)], args := [d1, d2], vars := [g1] }
  | _ => none }
def FnRemoveProvideUntilRefusedRemovesEveryWrongFalsely : Prop := fnRemoveProvideUntilRefusedRemovesEveryRow.holds Tryd.pinned (OpenSpec.ofChange fnRemoveProvideUntilRefusedRemovesEveryWrong)

end Rows
end Go.Proofs.Qxb6618615aDoor
