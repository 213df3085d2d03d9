/-
  DERIVED. GIVEN WITH THE SEED: THE CARDS: each row of YbulkeagiFmtRows.lean that lists a variable, with what it lists TIED to the program's text (the seventh form; the later family's looks); each row that meets fmt, with fmt's text TOLD by the authors' own Lean function (tested against real Go, not proved from fmt's source: count such statements apart). THE CARD IS WHAT COUNTS. Prove the row's statement (the work); the ties are given (YbulkeagiFmtTie.lean); close each card by the builder's one call (the guide's Derived/Test/ToyasCard.lean, 'card_holds'). Laid BY PROGRAM, IN A SANDBOX (cutbox-door.mjs). By AI agents, Wed Nov 11 2026. No macro, syntax, notation, axiom, sorry.
-/
import Derived.Test.YbulkeagiFmtRows
import GoSem.ClaimSeven
namespace Go.Proofs.YbulkeagiFmt
namespace Rows

/-- THE TOLD CARD OF 'cli.LawS6339APart'. -/
def lawS6339APartCard : Claim7 := { stood := { row := lawS6339APartRow, standIns := [], harness := (true, "a43430baada43914b41113386da2ae7896786ea6d5a49b941bc5fcaa28093459"), looks := false }, told := true, goes := false }
def LawS6339APartToldSaid : Prop := Claim7.holds Ybaf.pinned (.plain (OpenSpec.ofChange lawS6339APartSpec)) lawS6339APartCard
/-- ITS FALSE NEIGHBOUR. Refute it at one input. -/
def LawS6339APartToldWrongFalsely : Prop := Claim7.holds Ybaf.pinned (.plain (OpenSpec.ofChange lawS6339APartWrong)) lawS6339APartCard

/-- THE TOLD CARD OF 'cli.LawS6339BWhole'. -/
def lawS6339BWholeCard : Claim7 := { stood := { row := lawS6339BWholeRow, standIns := [], harness := (true, "a43430baada43914b41113386da2ae7896786ea6d5a49b941bc5fcaa28093459"), looks := false }, told := true, goes := false }
def LawS6339BWholeToldSaid : Prop := Claim7.holds Ybaf.pinned (.plain (OpenSpec.ofChange lawS6339BWholeSpec)) lawS6339BWholeCard
/-- ITS FALSE NEIGHBOUR. Refute it at one input. -/
def LawS6339BWholeToldWrongFalsely : Prop := Claim7.holds Ybaf.pinned (.plain (OpenSpec.ofChange lawS6339BWholeWrong)) lawS6339BWholeCard

/-- THE TOLD CARD OF 'cli.LawS6339BCalls'. -/
def lawS6339BCallsCard : Claim7 := { stood := { row := lawS6339BCallsRow, standIns := [], harness := (true, "a43430baada43914b41113386da2ae7896786ea6d5a49b941bc5fcaa28093459"), looks := false }, told := true, goes := false }
def LawS6339BCallsToldSaid : Prop := Claim7.holds Ybaf.pinned (.plain (OpenSpec.ofChange lawS6339BCallsSpec)) lawS6339BCallsCard
/-- ITS FALSE NEIGHBOUR. Refute it at one input. -/
def LawS6339BCallsToldWrongFalsely : Prop := Claim7.holds Ybaf.pinned (.plain (OpenSpec.ofChange lawS6339BCallsWrong)) lawS6339BCallsCard
end Rows
end Go.Proofs.YbulkeagiFmt
