/-
  No cell of these rows narrows 'for every input' (looked for: loops, veiled, ifaces, maps, wideKeys, modest, calm, conditions, laid).
  DERIVED. THE GIVEN ROWS OF THIS SEAT. 1 by the template 'for every input the law returns true; each argument reads behind the call as it read before'; 0 by the template 'total and deterministic' (their statements: YbulkeahyFmtRTotals.lean).
  GIVEN WITH THE SEED: the statements are not yours to turn. If you find one false, say at which input.
  Laid BY PROGRAM, IN A SANDBOX (cutbox-rows.mjs): the forced cells as the released guide's own fill.sh prints them over the translation 228da97c0796cb6a… (all of the seat's roots in one cut). By AI agents, Wed Nov 11 2026. No macro, syntax, notation, axiom, sorry.
-/
import Derived.Test.YbulkeahyFmtRChecked
import GoSem.Claim
import GoSem.ClaimJoined
import GoSem.ClaimMapViews
import Derived.JoinedTies
import Derived.KernelRfl
namespace Go.Proofs.YbulkeahyFmtR
/- THE CELL 'sum', in the pinned program and in every row, IS THE sha256 OF THE DUMP (.gsa) THAT YbulkeahyFmtRProg.lean LOADS. Nothing in Lean hashes anything: it is a label: what it is worth is what the hold of that sum in a sandbox is worth. -/
noncomputable def Ybaf.pinned : Pinned := { name := "ybulkeahyfmtr", sum := "228da97c0796cb6a3ea408691c0fdb4e46abf6d1abcc6b235db18b2ec3c06ee5", checked := Ybaf.checked }
namespace Rows
def none {H : Type} : Left H := { results := [], args := [] }

/-- 'recordlog.LawS6342BWhole': WHATEVER THE INPUT: true; the input reads as it did. -/
def lawS6342BWholeSpec : ChangeSpec := { name := "lawS6342BWhole", fn := fun _ => fun
  | [d1, d2, d3, d4, d5, d6] => { results := [.lit (.bool true)], args := [d1, d2, d3, d4, d5, d6] }
  | _ => none }
def lawS6342BWholeRow : OpenClaim := { program := "ybulkeahyfmtr", sum := "228da97c0796cb6a3ea408691c0fdb4e46abf6d1abcc6b235db18b2ec3c06ee5", func := "example.com/quorumlog/quorumlog/pkg/recordlog.LawS6342BWhole", spec := "lawS6342BWhole", stops := ["fmt.errorf"], inPlace := ["fmt.errorf"], apart := false }
/-- NO THEOREM (fmt's text is open here; it may be false): for the released tool's asking of the row's closed facts alone. THE STATEMENT IS 'LawS6342BWholeToldSaid' (YbulkeahyFmtRCards.lean). -/
def LawS6342BWholeFormAsk : Prop := lawS6342BWholeRow.holds Ybaf.pinned (OpenSpec.ofChange lawS6342BWholeSpec)

/-- ITS FALSE NEIGHBOUR: 'it returns false'. Refute it at one input. -/
def lawS6342BWholeWrong : ChangeSpec := { name := "lawS6342BWhole", fn := fun _ => fun
  | [d1, d2, d3, d4, d5, d6] => { results := [.lit (.bool false)], args := [d1, d2, d3, d4, d5, d6] }
  | _ => none }
def LawS6342BWholeWrongFormAsk : Prop := lawS6342BWholeRow.holds Ybaf.pinned (OpenSpec.ofChange lawS6342BWholeWrong)

end Rows
end Go.Proofs.YbulkeahyFmtR
