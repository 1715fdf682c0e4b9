/-
  NARROWER THAN 'FOR EVERY INPUT', by the rows' own cells (each row's printed sentence says how): LawS4671ATable: laid.
  DERIVED. THE GIVEN ROWS OF THIS SEAT. 1 by the template 'for every input the law returns true; each argument reads behind the call as it read before'; 0 by the template 'total and deterministic' (their statements: YbulkcrseDoorTotals.lean).
  GIVEN WITH THE SEED: the statements are not yours to turn. If you find one false, say at which input.
  Laid BY PROGRAM, IN A SANDBOX (cutbox-rows.mjs): the forced cells as the released guide's own fill.sh prints them over the translation 399c8d1c83d7fad1… (all of the seat's roots in one cut). By AI agents, Wed Nov 11 2026. No macro, syntax, notation, axiom, sorry.
-/
import Derived.Test.YbulkcrseDoorChecked
import GoSem.Claim
import GoSem.ClaimJoined
import GoSem.ClaimMapViews
import Derived.JoinedTies
import Derived.KernelRfl
namespace Go.Proofs.YbulkcrseDoor
/- THE CELL 'sum', in the pinned program and in every row, IS THE sha256 OF THE DUMP (.gsa) THAT YbulkcrseDoorProg.lean LOADS. Nothing in Lean hashes anything: it is a label: what it is worth is what the hold of that sum in a sandbox is worth. -/
noncomputable def Ybad.pinned : Pinned := { name := "ybulkcrsedoor", sum := "399c8d1c83d7fad1835c3b520572a61ec9cc9208790ed47aaab3625c311f8170", checked := Ybad.checked }
namespace Rows
def none {H : Type} : Left H := { results := [], args := [] }

/- WHAT THE LISTED PACKAGE-LEVEL VARIABLES READ AS WHEN THE CALL BEGINS. Each datum BY PROGRAM (the guide's laid-datum.mjs) off the statement by which the dump's own 'gosem.cut.vars' lays the variable. In a bare row this is a premise. The card (YbulkcrseDoorCards.lean) ties it to the program's text. -/
def laid_example_com_weftway_weftway_pkg_node_replies {H : Type} : DataW H := .agg [.agg [.lit (.string [106, 111, 105, 110, 101, 100]), .lit (.string [])], .agg [.lit (.string [112, 111, 114, 116, 32, 110, 111, 116, 32, 101, 120, 112, 111, 115, 101, 100]), .lit (.string [112, 111, 114, 116, 95, 110, 111, 116, 95, 101, 120, 112, 111, 115, 101, 100])], .agg [.lit (.string [99, 111, 110, 110, 101, 99, 116, 105, 111, 110, 32, 114, 101, 102, 117, 115, 101, 100]), .lit (.string [99, 111, 110, 110, 101, 99, 116, 105, 111, 110, 95, 114, 101, 102, 117, 115, 101, 100])], .agg [.lit (.string [110, 111, 116, 32, 97, 108, 108, 111, 119, 101, 100]), .lit (.string [110, 111, 116, 95, 97, 108, 108, 111, 119, 101, 100])]]

/-- 'node.LawS4671ATable': WHATEVER THE INPUT: true; the input reads as it did. -/
def lawS4671ATableSpec : ChangeSpec := { name := "lawS4671ATable", vars := ["example.com/weftway/weftway/pkg/node.replies"], fn := fun _ => fun
  | [d, g1] => { results := [.lit (.bool true)], args := [d], vars := [g1] }
  | _ => none }
def lawS4671ATableRow : OpenClaim := { program := "ybulkcrsedoor", sum := "399c8d1c83d7fad1835c3b520572a61ec9cc9208790ed47aaab3625c311f8170", func := "example.com/weftway/weftway/pkg/node.LawS4671ATable", spec := "lawS4671ATable", named := ["example.com/weftway/weftway/pkg/node.replies"], apart := false, laid := [("example.com/weftway/weftway/pkg/node.replies", laid_example_com_weftway_weftway_pkg_node_replies)] }
def LawS4671ATableSaid : Prop := lawS4671ATableRow.holds Ybad.pinned (OpenSpec.ofChange lawS4671ATableSpec)

/-- ITS FALSE NEIGHBOUR: 'it returns false'. Refute it at one input. -/
def lawS4671ATableWrong : ChangeSpec := { name := "lawS4671ATable", vars := ["example.com/weftway/weftway/pkg/node.replies"], fn := fun _ => fun
  | [d, g1] => { results := [.lit (.bool false)], args := [d], vars := [g1] }
  | _ => none }
def LawS4671ATableWrongFalsely : Prop := lawS4671ATableRow.holds Ybad.pinned (OpenSpec.ofChange lawS4671ATableWrong)

end Rows
end Go.Proofs.YbulkcrseDoor
