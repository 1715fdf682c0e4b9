/-
  DERIVED. GIVEN WITH THE SEED: THE CARDS: each row of YbulkcrjaFmtRows.lean that lists a variable, with what it lists TIED to the program's text (the seventh form; the later family's looks); each row that meets fmt, with fmt's text TOLD by the authors' own Lean function (tested against real Go, not proved from fmt's source: count such statements apart). THE CARD IS WHAT COUNTS. Prove the row's statement (the work); the ties are given (YbulkcrjaFmtTie.lean); close each card by the builder's one call (the guide's Derived/Test/ToyasCard.lean, 'card_holds'). Laid BY PROGRAM, IN A SANDBOX (cutbox-door.mjs). By AI agents, Wed Nov 11 2026. No macro, syntax, notation, axiom, sorry.
-/
import Derived.Test.YbulkcrjaFmtRows
import GoSem.ClaimSeven
namespace Go.Proofs.YbulkcrjaFmt
namespace Rows

/-- THE TOLD AND TIED CARD OF 'batonring.LawS4654BExact'. -/
def lawS4654BExactCard : Claim7 := { stood := { row := lawS4654BExactRow, standIns := [], harness := (true, "a61d9ca317355648214cb31747bda2625e425040cfe2613d29454dbfaf1e5345"), looks := true }, told := true, laidByText := true, laidKinds := [.sentinel], laidTests := true, laidLooks := .later, goes := false }
def LawS4654BExactToldSaid : Prop := Claim7.holds Ybaf.pinned (.plain (OpenSpec.ofChange lawS4654BExactSpec)) lawS4654BExactCard
/-- ITS FALSE NEIGHBOUR. Refute it at one input. -/
def LawS4654BExactToldWrongFalsely : Prop := Claim7.holds Ybaf.pinned (.plain (OpenSpec.ofChange lawS4654BExactWrong)) lawS4654BExactCard

/-- THE TOLD AND TIED CARD OF 'batonring.LawS4654BRefuse'. -/
def lawS4654BRefuseCard : Claim7 := { stood := { row := lawS4654BRefuseRow, standIns := [], harness := (true, "a61d9ca317355648214cb31747bda2625e425040cfe2613d29454dbfaf1e5345"), looks := true }, told := true, laidByText := true, laidKinds := [.sentinel], laidTests := true, laidLooks := .later, goes := false }
def LawS4654BRefuseToldSaid : Prop := Claim7.holds Ybaf.pinned (.plain (OpenSpec.ofChange lawS4654BRefuseSpec)) lawS4654BRefuseCard
/-- ITS FALSE NEIGHBOUR. Refute it at one input. -/
def LawS4654BRefuseToldWrongFalsely : Prop := Claim7.holds Ybaf.pinned (.plain (OpenSpec.ofChange lawS4654BRefuseWrong)) lawS4654BRefuseCard

/-- THE TOLD AND TIED CARD OF 'batonring.LawS4654BDamaged'. -/
def lawS4654BDamagedCard : Claim7 := { stood := { row := lawS4654BDamagedRow, standIns := [], harness := (true, "a61d9ca317355648214cb31747bda2625e425040cfe2613d29454dbfaf1e5345"), looks := true }, told := true, laidByText := true, laidKinds := [.sentinel], laidTests := true, laidLooks := .later, goes := false }
def LawS4654BDamagedToldSaid : Prop := Claim7.holds Ybaf.pinned (.plain (OpenSpec.ofChange lawS4654BDamagedSpec)) lawS4654BDamagedCard
/-- ITS FALSE NEIGHBOUR. Refute it at one input. -/
def LawS4654BDamagedToldWrongFalsely : Prop := Claim7.holds Ybaf.pinned (.plain (OpenSpec.ofChange lawS4654BDamagedWrong)) lawS4654BDamagedCard

/-- THE TOLD AND TIED CARD OF 'batonring.LawS4654CWrapsCutOff'. -/
def lawS4654CWrapsCutOffCard : Claim7 := { stood := { row := lawS4654CWrapsCutOffRow, standIns := [], harness := (true, "a61d9ca317355648214cb31747bda2625e425040cfe2613d29454dbfaf1e5345"), looks := true }, told := true, laidByText := true, laidKinds := [.sentinel, .sentinel], laidTests := true, laidLooks := .later, goes := false }
def LawS4654CWrapsCutOffToldSaid : Prop := Claim7.holds Ybaf.pinned (.plain (OpenSpec.ofChange lawS4654CWrapsCutOffSpec)) lawS4654CWrapsCutOffCard
/-- ITS FALSE NEIGHBOUR. Refute it at one input. -/
def LawS4654CWrapsCutOffToldWrongFalsely : Prop := Claim7.holds Ybaf.pinned (.plain (OpenSpec.ofChange lawS4654CWrapsCutOffWrong)) lawS4654CWrapsCutOffCard
end Rows
end Go.Proofs.YbulkcrjaFmt
