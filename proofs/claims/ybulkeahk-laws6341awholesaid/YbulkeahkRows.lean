/-
  No cell of these rows narrows 'for every input' (looked for: loops, veiled, ifaces, maps, wideKeys, modest, calm, conditions, laid).
  DERIVED. THE GIVEN ROWS OF THIS SEAT. 1 by the template 'for every input the law returns true; each argument reads behind the call as it read before'; 0 by the template 'total and deterministic' (their statements: YbulkeahkTotals.lean).
  GIVEN WITH THE SEED: the statements are not yours to turn. If you find one false, say at which input.
  Laid BY PROGRAM, IN A SANDBOX (cutbox-rows.mjs): the forced cells as the released guide's own fill.sh prints them over the translation 50c627d92cc270ab… (all of the seat's roots in one cut). By AI agents, Wed Nov 11 2026. No macro, syntax, notation, axiom, sorry.
-/
import Derived.Test.YbulkeahkChecked
import GoSem.Claim
import GoSem.ClaimJoined
import GoSem.ClaimMapViews
import Derived.JoinedTies
import Derived.KernelRfl
namespace Go.Proofs.Ybulkeahk
/- THE CELL 'sum', in the pinned program and in every row, IS THE sha256 OF THE DUMP (.gsa) THAT YbulkeahkProg.lean LOADS. Nothing in Lean hashes anything: it is a label: what it is worth is what the hold of that sum in a sandbox is worth. -/
noncomputable def Yba.pinned : Pinned := { name := "ybulkeahk", sum := "50c627d92cc270abae5f1baaae727805968706b6554da4b9a67663a16e4c9e96", checked := Yba.checked }
namespace Rows
def none {H : Type} : Left H := { results := [], args := [] }

/-- 'runlog.LawS6341AWhole': WHATEVER THE INPUT: true; the input reads as it did. -/
def lawS6341AWholeSpec : ChangeSpec := { name := "lawS6341AWhole", fn := fun _ => fun
  | [d1, d2, d3, d4, d5, d6, d7, d8, d9, d10, d11] => { results := [.lit (.bool true)], args := [d1, d2, d3, d4, d5, d6, d7, d8, d9, d10, d11] }
  | _ => none }
def lawS6341AWholeRow : OpenClaim := { program := "ybulkeahk", sum := "50c627d92cc270abae5f1baaae727805968706b6554da4b9a67663a16e4c9e96", func := "example.com/causaline/causaline/internal/runlog.LawS6341AWhole", spec := "lawS6341AWhole", apart := false }
def LawS6341AWholeSaid : Prop := lawS6341AWholeRow.holds Yba.pinned (OpenSpec.ofChange lawS6341AWholeSpec)

/-- ITS FALSE NEIGHBOUR: 'it returns false'. Refute it at one input. -/
def lawS6341AWholeWrong : ChangeSpec := { name := "lawS6341AWhole", fn := fun _ => fun
  | [d1, d2, d3, d4, d5, d6, d7, d8, d9, d10, d11] => { results := [.lit (.bool false)], args := [d1, d2, d3, d4, d5, d6, d7, d8, d9, d10, d11] }
  | _ => none }
def LawS6341AWholeWrongFalsely : Prop := lawS6341AWholeRow.holds Yba.pinned (OpenSpec.ofChange lawS6341AWholeWrong)

end Rows
end Go.Proofs.Ybulkeahk
