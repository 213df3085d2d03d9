/-
  NARROWER THAN 'FOR EVERY INPUT', by the rows' own cells (each row's printed sentence says how): LawS6339CWhole: maps, laid.
  DERIVED. THE GIVEN ROWS OF THIS SEAT. 1 by the template 'for every input the law returns true; each argument reads behind the call as it read before'; 0 by the template 'total and deterministic' (their statements: YbulkeagiDoorTotals.lean).
  GIVEN WITH THE SEED: the statements are not yours to turn. If you find one false, say at which input.
  Laid BY PROGRAM, IN A SANDBOX (cutbox-rows.mjs): the forced cells as the released guide's own fill.sh prints them over the translation 1699813d8b0978f4… (all of the seat's roots in one cut). By AI agents, Wed Nov 11 2026. No macro, syntax, notation, axiom, sorry.
-/
import Derived.Test.YbulkeagiDoorChecked
import GoSem.Claim
import GoSem.ClaimJoined
import GoSem.ClaimMapViews
import Derived.JoinedTies
import Derived.KernelRfl
namespace Go.Proofs.YbulkeagiDoor
/- THE CELL 'sum', in the pinned program and in every row, IS THE sha256 OF THE DUMP (.gsa) THAT YbulkeagiDoorProg.lean LOADS. Nothing in Lean hashes anything: it is a label: what it is worth is what the hold of that sum in a sandbox is worth. -/
noncomputable def Ybad.pinned : Pinned := { name := "ybulkeagidoor", sum := "1699813d8b0978f4e9b0c31a8667ae75d983608f22c034a7a2707679d1f872da", checked := Ybad.checked }
namespace Rows
def none {H : Type} : Left H := { results := [], args := [] }

/- WHAT THE LISTED PACKAGE-LEVEL VARIABLES READ AS WHEN THE CALL BEGINS. Each datum BY PROGRAM (the guide's laid-datum.mjs) off the statement by which the dump's own 'gosem.cut.vars' lays the variable. In a bare row this is a premise. The card (YbulkeagiDoorCards.lean) ties it to the program's text. -/
def laid_example_com_seamcheck_seamcheck_internal_config_keywords {H : Type} : DataW H := .map [(.string [65, 67, 84, 73, 79, 78, 95, 67, 79, 78, 83, 84, 82, 65, 73, 78, 84], .lit (.int .u8 0)), (.string [65, 67, 84, 73, 79, 78, 95, 67, 79, 78, 83, 84, 82, 65, 73, 78, 84, 83], .lit (.int .u8 0)), (.string [65, 76, 73, 65, 83], .lit (.int .u8 0)), (.string [67, 72, 69, 67, 75, 95, 68, 69, 65, 68, 76, 79, 67, 75], .lit (.int .u8 6)), (.string [67, 79, 78, 83, 84, 65, 78, 84], .lit (.int .u8 1)), (.string [67, 79, 78, 83, 84, 65, 78, 84, 83], .lit (.int .u8 1)), (.string [67, 79, 78, 83, 84, 82, 65, 73, 78, 84], .lit (.int .u8 0)), (.string [67, 79, 78, 83, 84, 82, 65, 73, 78, 84, 83], .lit (.int .u8 0)), (.string [73, 78, 73, 84], .lit (.int .u8 3)), (.string [73, 78, 86, 65, 82, 73, 65, 78, 84], .lit (.int .u8 5)), (.string [73, 78, 86, 65, 82, 73, 65, 78, 84, 83], .lit (.int .u8 5)), (.string [78, 69, 88, 84], .lit (.int .u8 4)), (.string [80, 79, 83, 84, 67, 79, 78, 68, 73, 84, 73, 79, 78], .lit (.int .u8 0)), (.string [80, 82, 79, 80, 69, 82, 84, 73, 69, 83], .lit (.int .u8 0)), (.string [80, 82, 79, 80, 69, 82, 84, 89], .lit (.int .u8 0)), (.string [83, 80, 69, 67, 73, 70, 73, 67, 65, 84, 73, 79, 78], .lit (.int .u8 2)), (.string [83, 89, 77, 77, 69, 84, 82, 89], .lit (.int .u8 0)), (.string [86, 73, 69, 87], .lit (.int .u8 0))]

/-- 'config.LawS6339CWhole': WHATEVER THE INPUT: true; the input reads as it did. -/
def lawS6339CWholeSpec : ChangeSpec := { name := "lawS6339CWhole", vars := ["example.com/seamcheck/seamcheck/internal/config.keywords"], fn := fun _ => fun
  | [d1, d2, d3, g1] => { results := [.lit (.bool true)], args := [d1, d2, d3], vars := [g1] }
  | _ => none }
def lawS6339CWholeRow : OpenClaim := { program := "ybulkeagidoor", sum := "1699813d8b0978f4e9b0c31a8667ae75d983608f22c034a7a2707679d1f872da", func := "example.com/seamcheck/seamcheck/internal/config.LawS6339CWhole", spec := "lawS6339CWhole", named := ["example.com/seamcheck/seamcheck/internal/config.keywords"], maps := true, apart := false, laid := [("example.com/seamcheck/seamcheck/internal/config.keywords", laid_example_com_seamcheck_seamcheck_internal_config_keywords)] }
def LawS6339CWholeSaid : Prop := lawS6339CWholeRow.holds Ybad.pinned (OpenSpec.ofChange lawS6339CWholeSpec)

/-- ITS FALSE NEIGHBOUR: 'it returns false'. Refute it at one input. -/
def lawS6339CWholeWrong : ChangeSpec := { name := "lawS6339CWhole", vars := ["example.com/seamcheck/seamcheck/internal/config.keywords"], fn := fun _ => fun
  | [d1, d2, d3, g1] => { results := [.lit (.bool false)], args := [d1, d2, d3], vars := [g1] }
  | _ => none }
def LawS6339CWholeWrongFalsely : Prop := lawS6339CWholeRow.holds Ybad.pinned (OpenSpec.ofChange lawS6339CWholeWrong)

end Rows
end Go.Proofs.YbulkeagiDoor
