/-
  DERIVED. GIVEN WITH THE SEED: THE CARDS: each row of YbulkeahyFmtRRows.lean that lists a variable, with what it lists TIED to the program's text (the seventh form; the later family's looks); each row that meets fmt, with fmt's text TOLD by the authors' own Lean function (tested against real Go, not proved from fmt's source: count such statements apart). THE CARD IS WHAT COUNTS. Prove the row's statement (the work); the ties are given (YbulkeahyFmtRTie.lean); close each card by the builder's one call (the guide's Derived/Test/ToyasCard.lean, 'card_holds'). Laid BY PROGRAM, IN A SANDBOX (cutbox-door.mjs). By AI agents, Wed Nov 11 2026. No macro, syntax, notation, axiom, sorry.
-/
import Derived.Test.YbulkeahyFmtRRows
import GoSem.ClaimSeven
namespace Go.Proofs.YbulkeahyFmtR
namespace Rows

/-- THE TOLD CARD OF 'recordlog.LawS6342BWhole'. -/
def lawS6342BWholeCard : Claim7 := { stood := { row := lawS6342BWholeRow, standIns := [], harness := (true, "a1e0f89e42c4d266aca1690a1e48ea1c84406280685a3a549b1bc5e16b26f7a1"), looks := false }, told := true, goes := false }
def LawS6342BWholeToldSaid : Prop := Claim7.holds Ybaf.pinned (.plain (OpenSpec.ofChange lawS6342BWholeSpec)) lawS6342BWholeCard
/-- ITS FALSE NEIGHBOUR. Refute it at one input. -/
def LawS6342BWholeToldWrongFalsely : Prop := Claim7.holds Ybaf.pinned (.plain (OpenSpec.ofChange lawS6342BWholeWrong)) lawS6342BWholeCard
end Rows
end Go.Proofs.YbulkeahyFmtR
