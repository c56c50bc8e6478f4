/-
  NARROWER THAN 'FOR EVERY INPUT', by the rows' own cells (each row's printed sentence says how): FnEventDependsOnNextEventAddsExactlyThisOne: maps · FnEventDependsOnOwnOriginAgreesWithDepsCountingIt: maps.
  DERIVED. THE GIVEN ROWS OF THIS SEAT. 4 by the template 'for every input the law returns true; each argument reads behind the call as it read before'; 0 by the template 'total and deterministic' (their statements: Qxb6616567aTotals.lean).
  GIVEN WITH THE SEED: the statements are not yours to turn. If you find one false, say at which input.
  Laid BY PROGRAM, IN A SANDBOX (cutbox-rows.mjs): the forced cells as the released guide's own fill.sh prints them over the translation 3abbd7b8b0072cfb… (all of the seat's roots in one cut). By AI agents, Wed Nov 11 2026. No macro, syntax, notation, axiom, sorry.
-/
import Derived.Test.Qxb6616567aChecked
import GoSem.Claim
import GoSem.ClaimJoined
import GoSem.ClaimMapViews
import Derived.JoinedTies
import Derived.KernelRfl
namespace Go.Proofs.Qxb6616567a
/- THE CELL 'sum', in the pinned program and in every row, IS THE sha256 OF THE DUMP (.gsa) THAT Qxb6616567aProg.lean LOADS. Nothing in Lean hashes anything: it is a label: what it is worth is what the hold of that sum in a sandbox is worth. -/
noncomputable def Try.pinned : Pinned := { name := "qxb6616567a", sum := "3abbd7b8b0072cfb88de4ac3cfef9f1a76af1ae4844b611f093f3d11380a43ec", checked := Try.checked }
namespace Rows
def none {H : Type} : Left H := { results := [], args := [] }

/-- 'zzlaws_pkg_events_b1.FnEventDependsOnNextEventAddsExactlyThisOne': WHATEVER THE INPUT: true; the input reads as it did. -/
def fnEventDependsOnNextEventAddsExactlyThisOneSpec : ChangeSpec := { name := "fnEventDependsOnNextEventAddsExactlyThisOne", fn := fun _ => fun
  | [d1, d2, d3, d4, d5] => { results := [.lit (.bool true)], args := [d1, d2, d3, d4, d5] }
  | _ => none }
def fnEventDependsOnNextEventAddsExactlyThisOneRow : OpenClaim := { program := "qxb6616567a", sum := "3abbd7b8b0072cfb88de4ac3cfef9f1a76af1ae4844b611f093f3d11380a43ec", func := "example.com/tallywind/tallywind/zzlaws_pkg_events_b1.FnEventDependsOnNextEventAddsExactlyThisOne", spec := "fnEventDependsOnNextEventAddsExactlyThisOne", maps := true, apart := false }
def FnEventDependsOnNextEventAddsExactlyThisOneSaid : Prop := fnEventDependsOnNextEventAddsExactlyThisOneRow.holds Try.pinned (OpenSpec.ofChange fnEventDependsOnNextEventAddsExactlyThisOneSpec)

/-- ITS FALSE NEIGHBOUR: 'it returns false'. Refute it at one input. -/
def fnEventDependsOnNextEventAddsExactlyThisOneWrong : ChangeSpec := { name := "fnEventDependsOnNextEventAddsExactlyThisOne", fn := fun _ => fun
  | [d1, d2, d3, d4, d5] => { results := [.lit (.bool false)], args := [d1, d2, d3, d4, d5] }
  | _ => none }
def FnEventDependsOnNextEventAddsExactlyThisOneWrongFalsely : Prop := fnEventDependsOnNextEventAddsExactlyThisOneRow.holds Try.pinned (OpenSpec.ofChange fnEventDependsOnNextEventAddsExactlyThisOneWrong)

/-- 'zzlaws_pkg_events_b1.FnEventDependsOnOwnOriginAgreesWithDepsCountingIt': WHATEVER THE INPUT: true; the input reads as it did. -/
def fnEventDependsOnOwnOriginAgreesWithDepsCountingItSpec : ChangeSpec := { name := "fnEventDependsOnOwnOriginAgreesWithDepsCountingIt", fn := fun _ => fun
  | [d1, d2, d3, d4, d5, d6] => { results := [.lit (.bool true)], args := [d1, d2, d3, d4, d5, d6] }
  | _ => none }
def fnEventDependsOnOwnOriginAgreesWithDepsCountingItRow : OpenClaim := { program := "qxb6616567a", sum := "3abbd7b8b0072cfb88de4ac3cfef9f1a76af1ae4844b611f093f3d11380a43ec", func := "example.com/tallywind/tallywind/zzlaws_pkg_events_b1.FnEventDependsOnOwnOriginAgreesWithDepsCountingIt", spec := "fnEventDependsOnOwnOriginAgreesWithDepsCountingIt", maps := true, apart := false }
def FnEventDependsOnOwnOriginAgreesWithDepsCountingItSaid : Prop := fnEventDependsOnOwnOriginAgreesWithDepsCountingItRow.holds Try.pinned (OpenSpec.ofChange fnEventDependsOnOwnOriginAgreesWithDepsCountingItSpec)

/-- ITS FALSE NEIGHBOUR: 'it returns false'. Refute it at one input. -/
def fnEventDependsOnOwnOriginAgreesWithDepsCountingItWrong : ChangeSpec := { name := "fnEventDependsOnOwnOriginAgreesWithDepsCountingIt", fn := fun _ => fun
  | [d1, d2, d3, d4, d5, d6] => { results := [.lit (.bool false)], args := [d1, d2, d3, d4, d5, d6] }
  | _ => none }
def FnEventDependsOnOwnOriginAgreesWithDepsCountingItWrongFalsely : Prop := fnEventDependsOnOwnOriginAgreesWithDepsCountingItRow.holds Try.pinned (OpenSpec.ofChange fnEventDependsOnOwnOriginAgreesWithDepsCountingItWrong)

/-- 'zzlaws_pkg_events_b1.FnNonceMarshalTextSpellsNonceAndKeepsOrder': WHATEVER THE INPUT: true; the input reads as it did. -/
def fnNonceMarshalTextSpellsNonceAndKeepsOrderSpec : ChangeSpec := { name := "fnNonceMarshalTextSpellsNonceAndKeepsOrder", fn := fun _ => fun
  | [d1, d2] => { results := [.lit (.bool true)], args := [d1, d2] }
  | _ => none }
def fnNonceMarshalTextSpellsNonceAndKeepsOrderRow : OpenClaim := { program := "qxb6616567a", sum := "3abbd7b8b0072cfb88de4ac3cfef9f1a76af1ae4844b611f093f3d11380a43ec", func := "example.com/tallywind/tallywind/zzlaws_pkg_events_b1.FnNonceMarshalTextSpellsNonceAndKeepsOrder", spec := "fnNonceMarshalTextSpellsNonceAndKeepsOrder", apart := false }
def FnNonceMarshalTextSpellsNonceAndKeepsOrderSaid : Prop := fnNonceMarshalTextSpellsNonceAndKeepsOrderRow.holds Try.pinned (OpenSpec.ofChange fnNonceMarshalTextSpellsNonceAndKeepsOrderSpec)

/-- ITS FALSE NEIGHBOUR: 'it returns false'. Refute it at one input. -/
def fnNonceMarshalTextSpellsNonceAndKeepsOrderWrong : ChangeSpec := { name := "fnNonceMarshalTextSpellsNonceAndKeepsOrder", fn := fun _ => fun
  | [d1, d2] => { results := [.lit (.bool false)], args := [d1, d2] }
  | _ => none }
def FnNonceMarshalTextSpellsNonceAndKeepsOrderWrongFalsely : Prop := fnNonceMarshalTextSpellsNonceAndKeepsOrderRow.holds Try.pinned (OpenSpec.ofChange fnNonceMarshalTextSpellsNonceAndKeepsOrderWrong)

/-- 'zzlaws_pkg_events_b1.FnNonceMarshalTextChangesOnlyTheDigitsOfTheChangedByte': WHATEVER THE INPUT: true; the input reads as it did. -/
def fnNonceMarshalTextChangesOnlyTheDigitsOfTheChangedByteSpec : ChangeSpec := { name := "fnNonceMarshalTextChangesOnlyTheDigitsOfTheChangedByte", fn := fun _ => fun
  | [d1, d2, d3] => { results := [.lit (.bool true)], args := [d1, d2, d3] }
  | _ => none }
def fnNonceMarshalTextChangesOnlyTheDigitsOfTheChangedByteRow : OpenClaim := { program := "qxb6616567a", sum := "3abbd7b8b0072cfb88de4ac3cfef9f1a76af1ae4844b611f093f3d11380a43ec", func := "example.com/tallywind/tallywind/zzlaws_pkg_events_b1.FnNonceMarshalTextChangesOnlyTheDigitsOfTheChangedByte", spec := "fnNonceMarshalTextChangesOnlyTheDigitsOfTheChangedByte", apart := false }
def FnNonceMarshalTextChangesOnlyTheDigitsOfTheChangedByteSaid : Prop := fnNonceMarshalTextChangesOnlyTheDigitsOfTheChangedByteRow.holds Try.pinned (OpenSpec.ofChange fnNonceMarshalTextChangesOnlyTheDigitsOfTheChangedByteSpec)

/-- ITS FALSE NEIGHBOUR: 'it returns false'. Refute it at one input. -/
def fnNonceMarshalTextChangesOnlyTheDigitsOfTheChangedByteWrong : ChangeSpec := { name := "fnNonceMarshalTextChangesOnlyTheDigitsOfTheChangedByte", fn := fun _ => fun
  | [d1, d2, d3] => { results := [.lit (.bool false)], args := [d1, d2, d3] }
  | _ => none }
def FnNonceMarshalTextChangesOnlyTheDigitsOfTheChangedByteWrongFalsely : Prop := fnNonceMarshalTextChangesOnlyTheDigitsOfTheChangedByteRow.holds Try.pinned (OpenSpec.ofChange fnNonceMarshalTextChangesOnlyTheDigitsOfTheChangedByteWrong)

end Rows
end Go.Proofs.Qxb6616567a
