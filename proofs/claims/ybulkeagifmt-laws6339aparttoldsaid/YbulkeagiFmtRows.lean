/-
  No cell of these rows narrows 'for every input' (looked for: loops, veiled, ifaces, maps, wideKeys, modest, calm, conditions, laid).
  DERIVED. THE GIVEN ROWS OF THIS SEAT. 3 by the template 'for every input the law returns true; each argument reads behind the call as it read before'; 0 by the template 'total and deterministic' (their statements: YbulkeagiFmtTotals.lean).
  GIVEN WITH THE SEED: the statements are not yours to turn. If you find one false, say at which input.
  Laid BY PROGRAM, IN A SANDBOX (cutbox-rows.mjs): the forced cells as the released guide's own fill.sh prints them over the translation 0ada789ce5ae144d… (all of the seat's roots in one cut). By AI agents, Wed Nov 11 2026. No macro, syntax, notation, axiom, sorry.
-/
import Derived.Test.YbulkeagiFmtChecked
import GoSem.Claim
import GoSem.ClaimJoined
import GoSem.ClaimMapViews
import Derived.JoinedTies
import Derived.KernelRfl
namespace Go.Proofs.YbulkeagiFmt
/- THE CELL 'sum', in the pinned program and in every row, IS THE sha256 OF THE DUMP (.gsa) THAT YbulkeagiFmtProg.lean LOADS. Nothing in Lean hashes anything: it is a label: what it is worth is what the hold of that sum in a sandbox is worth. -/
noncomputable def Ybaf.pinned : Pinned := { name := "ybulkeagifmt", sum := "0ada789ce5ae144d51716bd8482d965e4d9ce98b8da9db6a2ba3d26b5d7b31fb", checked := Ybaf.checked }
namespace Rows
def none {H : Type} : Left H := { results := [], args := [] }

/-- 'cli.LawS6339APart': WHATEVER THE INPUT: true; the input reads as it did. -/
def lawS6339APartSpec : ChangeSpec := { name := "lawS6339APart", fn := fun _ => fun
  | [d1, d2, d3, d4, d5, d6] => { results := [.lit (.bool true)], args := [d1, d2, d3, d4, d5, d6] }
  | _ => none }
def lawS6339APartRow : OpenClaim := { program := "ybulkeagifmt", sum := "0ada789ce5ae144d51716bd8482d965e4d9ce98b8da9db6a2ba3d26b5d7b31fb", func := "example.com/seamcheck/seamcheck/internal/cli.LawS6339APart", spec := "lawS6339APart", stops := ["fmt.Sprintf, its operands' methods called"], inPlace := ["fmt.Sprintf"], unfollowed := true, recurses := true, apart := false }
/-- NO THEOREM (fmt's text is open here; it may be false): for the released tool's asking of the row's closed facts alone. THE STATEMENT IS 'LawS6339APartToldSaid' (YbulkeagiFmtCards.lean). -/
def LawS6339APartFormAsk : Prop := lawS6339APartRow.holds Ybaf.pinned (OpenSpec.ofChange lawS6339APartSpec)

/-- ITS FALSE NEIGHBOUR: 'it returns false'. Refute it at one input. -/
def lawS6339APartWrong : ChangeSpec := { name := "lawS6339APart", fn := fun _ => fun
  | [d1, d2, d3, d4, d5, d6] => { results := [.lit (.bool false)], args := [d1, d2, d3, d4, d5, d6] }
  | _ => none }
def LawS6339APartWrongFormAsk : Prop := lawS6339APartRow.holds Ybaf.pinned (OpenSpec.ofChange lawS6339APartWrong)

/-- 'cli.LawS6339BWhole': WHATEVER THE INPUT: true; the input reads as it did. -/
def lawS6339BWholeSpec : ChangeSpec := { name := "lawS6339BWhole", fn := fun _ => fun
  | [d1, d2] => { results := [.lit (.bool true)], args := [d1, d2] }
  | _ => none }
def lawS6339BWholeRow : OpenClaim := { program := "ybulkeagifmt", sum := "0ada789ce5ae144d51716bd8482d965e4d9ce98b8da9db6a2ba3d26b5d7b31fb", func := "example.com/seamcheck/seamcheck/internal/cli.LawS6339BWhole", spec := "lawS6339BWhole", stops := ["fmt.Sprintf, its operands' methods called"], inPlace := ["fmt.Fprintf", "fmt.Sprintf"], unfollowed := true, recurses := true, apart := false }
/-- NO THEOREM (fmt's text is open here; it may be false): for the released tool's asking of the row's closed facts alone. THE STATEMENT IS 'LawS6339BWholeToldSaid' (YbulkeagiFmtCards.lean). -/
def LawS6339BWholeFormAsk : Prop := lawS6339BWholeRow.holds Ybaf.pinned (OpenSpec.ofChange lawS6339BWholeSpec)

/-- ITS FALSE NEIGHBOUR: 'it returns false'. Refute it at one input. -/
def lawS6339BWholeWrong : ChangeSpec := { name := "lawS6339BWhole", fn := fun _ => fun
  | [d1, d2] => { results := [.lit (.bool false)], args := [d1, d2] }
  | _ => none }
def LawS6339BWholeWrongFormAsk : Prop := lawS6339BWholeRow.holds Ybaf.pinned (OpenSpec.ofChange lawS6339BWholeWrong)

/-- 'cli.LawS6339BCalls': WHATEVER THE INPUT: true; the input reads as it did. -/
def lawS6339BCallsSpec : ChangeSpec := { name := "lawS6339BCalls", fn := fun _ => fun
  | [d1, d2] => { results := [.lit (.bool true)], args := [d1, d2] }
  | _ => none }
def lawS6339BCallsRow : OpenClaim := { program := "ybulkeagifmt", sum := "0ada789ce5ae144d51716bd8482d965e4d9ce98b8da9db6a2ba3d26b5d7b31fb", func := "example.com/seamcheck/seamcheck/internal/cli.LawS6339BCalls", spec := "lawS6339BCalls", stops := ["fmt.Sprintf, its operands' methods called"], inPlace := ["fmt.Fprintf", "fmt.Sprintf"], unfollowed := true, recurses := true, apart := false }
/-- NO THEOREM (fmt's text is open here; it may be false): for the released tool's asking of the row's closed facts alone. THE STATEMENT IS 'LawS6339BCallsToldSaid' (YbulkeagiFmtCards.lean). -/
def LawS6339BCallsFormAsk : Prop := lawS6339BCallsRow.holds Ybaf.pinned (OpenSpec.ofChange lawS6339BCallsSpec)

/-- ITS FALSE NEIGHBOUR: 'it returns false'. Refute it at one input. -/
def lawS6339BCallsWrong : ChangeSpec := { name := "lawS6339BCalls", fn := fun _ => fun
  | [d1, d2] => { results := [.lit (.bool false)], args := [d1, d2] }
  | _ => none }
def LawS6339BCallsWrongFormAsk : Prop := lawS6339BCallsRow.holds Ybaf.pinned (OpenSpec.ofChange lawS6339BCallsWrong)

end Rows
end Go.Proofs.YbulkeagiFmt
