/-
  DERIVED. GIVEN WITH THE SEED: THE CARDS: each row of YbulkeagiDoorRows.lean that lists a variable, with what it lists TIED to the program's text (the seventh form; the later family's looks); each row that meets fmt, with fmt's text TOLD by the authors' own Lean function (tested against real Go, not proved from fmt's source: count such statements apart). THE CARD IS WHAT COUNTS. Prove the row's statement (the work); the ties are given (YbulkeagiDoorTie.lean); close each card by the builder's one call (the guide's Derived/Test/ToyasCard.lean, 'card_holds'). Laid BY PROGRAM, IN A SANDBOX (cutbox-door.mjs). By AI agents, Wed Nov 11 2026. No macro, syntax, notation, axiom, sorry.
-/
import Derived.Test.YbulkeagiDoorRows
import GoSem.ClaimSeven
namespace Go.Proofs.YbulkeagiDoor
namespace Rows

/-- THE TIED CARD OF 'config.LawS6339CWhole'. -/
def lawS6339CWholeCard : Claim7 := { stood := { row := lawS6339CWholeRow, standIns := [], harness := (true, "88b59cf7a7857768777518c3616e7e338b3bbde453b9d98f20a38a55da7dc828"), looks := false }, kinds := [], alts := [], laidByText := true, laidKinds := [.mapped], laidTests := true, laidLooks := .later }
def LawS6339CWholeCardSaid : Prop := Claim7.holds Ybad.pinned (.plain (OpenSpec.ofChange lawS6339CWholeSpec)) lawS6339CWholeCard
end Rows
end Go.Proofs.YbulkeagiDoor
