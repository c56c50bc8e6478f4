/-
  DERIVED. GIVEN WITH THE SEED: THE CARDS: each row of Qxb6618615aDoorRows.lean that lists a variable, with what it lists TIED to the program's text (the seventh form; the later family's looks); each row that meets fmt, with fmt's text TOLD by the authors' own Lean function (tested against real Go, not proved from fmt's source: count such statements apart). THE CARD IS WHAT COUNTS. Prove the row's statement (the work); the ties are given (Qxb6618615aDoorTie.lean); close each card by the builder's one call (the guide's Derived/Test/ToyasCard.lean, 'card_holds'). Laid BY PROGRAM, IN A SANDBOX (cutbox-door.mjs). By AI agents, Wed Nov 11 2026. No macro, syntax, notation, axiom, sorry.
-/
import Derived.Test.Qxb6618615aDoorRows
import GoSem.ClaimSeven
namespace Go.Proofs.Qxb6618615aDoor
namespace Rows

/-- THE TIED CARD OF 'zzlaws_root_b1.FnRemoveProvideUntilRefusedRemovesEvery'. -/
def fnRemoveProvideUntilRefusedRemovesEveryCard : Claim7 := { stood := { row := fnRemoveProvideUntilRefusedRemovesEveryRow, standIns := [], harness := (true, "0b7f492ed2744a6cf2726e07c2c3bcf0896d2ec8bf176793995852141483b511"), looks := false }, kinds := [], alts := [], laidByText := true, laidKinds := [.sentinel], laidTests := true, laidLooks := .later }
def FnRemoveProvideUntilRefusedRemovesEveryCardSaid : Prop := Claim7.holds Tryd.pinned (.plain (OpenSpec.ofChange fnRemoveProvideUntilRefusedRemovesEverySpec)) fnRemoveProvideUntilRefusedRemovesEveryCard
end Rows
end Go.Proofs.Qxb6618615aDoor
