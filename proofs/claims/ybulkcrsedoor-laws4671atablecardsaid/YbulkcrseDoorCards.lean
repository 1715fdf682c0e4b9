/-
  DERIVED. GIVEN WITH THE SEED: THE CARDS: each row of YbulkcrseDoorRows.lean that lists a variable, with what it lists TIED to the program's text (the seventh form; the later family's looks); each row that meets fmt, with fmt's text TOLD by the authors' own Lean function (tested against real Go, not proved from fmt's source: count such statements apart). THE CARD IS WHAT COUNTS. Prove the row's statement (the work); the ties are given (YbulkcrseDoorTie.lean); close each card by the builder's one call (the guide's Derived/Test/ToyasCard.lean, 'card_holds'). Laid BY PROGRAM, IN A SANDBOX (cutbox-door.mjs). By AI agents, Wed Nov 11 2026. No macro, syntax, notation, axiom, sorry.
-/
import Derived.Test.YbulkcrseDoorRows
import GoSem.ClaimSeven
namespace Go.Proofs.YbulkcrseDoor
namespace Rows

/-- THE TIED CARD OF 'node.LawS4671ATable'. -/
def lawS4671ATableCard : Claim7 := { stood := { row := lawS4671ATableRow, standIns := [], harness := (true, "900b7f995cf1b6ba4776d29b076be6e6cd2be720b40d938da00954afd297397a"), looks := false }, kinds := [], alts := [], laidByText := true, laidKinds := [.data], laidTests := true, laidLooks := .later }
def LawS4671ATableCardSaid : Prop := Claim7.holds Ybad.pinned (.plain (OpenSpec.ofChange lawS4671ATableSpec)) lawS4671ATableCard
end Rows
end Go.Proofs.YbulkcrseDoor
