/-
  No cell of these rows narrows 'for every input' (looked for: loops, veiled, ifaces, maps, wideKeys, modest, calm, conditions, laid).
  DERIVED. THE GIVEN ROWS OF THIS SEAT. 1 by the template 'for every input the law returns true; each argument reads behind the call as it read before'; 0 by the template 'total and deterministic' (their statements: YbulkealeTotals.lean).
  GIVEN WITH THE SEED: the statements are not yours to turn. If you find one false, say at which input.
  Laid BY PROGRAM, IN A SANDBOX (cutbox-rows.mjs): the forced cells as the released guide's own fill.sh prints them over the translation dc958ae3d1718e2a… (all of the seat's roots in one cut). By AI agents, Wed Nov 11 2026. No macro, syntax, notation, axiom, sorry.
-/
import Derived.Test.YbulkealeChecked
import GoSem.Claim
import GoSem.ClaimJoined
import GoSem.ClaimMapViews
import Derived.JoinedTies
import Derived.KernelRfl
namespace Go.Proofs.Ybulkeale
/- THE CELL 'sum', in the pinned program and in every row, IS THE sha256 OF THE DUMP (.gsa) THAT YbulkealeProg.lean LOADS. Nothing in Lean hashes anything: it is a label: what it is worth is what the hold of that sum in a sandbox is worth. -/
noncomputable def Yba.pinned : Pinned := { name := "ybulkeale", sum := "dc958ae3d1718e2acc9aa178f7956ba33971d7ac4e61a7b89df0a37a591b1167", checked := Yba.checked }
namespace Rows
def none {H : Type} : Left H := { results := [], args := [] }

/-- 'article.LawS6348CWhole': WHATEVER THE INPUT: true; the input reads as it did. -/
def lawS6348CWholeSpec : ChangeSpec := { name := "lawS6348CWhole", fn := fun _ => fun
  | [d1, d2, d3] => { results := [.lit (.bool true)], args := [d1, d2, d3] }
  | _ => none }
def lawS6348CWholeRow : OpenClaim := { program := "ybulkeale", sum := "dc958ae3d1718e2acc9aa178f7956ba33971d7ac4e61a7b89df0a37a591b1167", func := "example.com/spoolwire/spoolwire/internal/article.LawS6348CWhole", spec := "lawS6348CWhole", apart := false }
def LawS6348CWholeSaid : Prop := lawS6348CWholeRow.holds Yba.pinned (OpenSpec.ofChange lawS6348CWholeSpec)

/-- ITS FALSE NEIGHBOUR: 'it returns false'. Refute it at one input. -/
def lawS6348CWholeWrong : ChangeSpec := { name := "lawS6348CWhole", fn := fun _ => fun
  | [d1, d2, d3] => { results := [.lit (.bool false)], args := [d1, d2, d3] }
  | _ => none }
def LawS6348CWholeWrongFalsely : Prop := lawS6348CWholeRow.holds Yba.pinned (OpenSpec.ofChange lawS6348CWholeWrong)

end Rows
end Go.Proofs.Ybulkeale
