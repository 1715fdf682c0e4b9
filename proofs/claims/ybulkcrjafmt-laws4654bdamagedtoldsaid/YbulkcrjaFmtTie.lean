/-
  DERIVED. GIVEN WITH THE SEED: THE PROGRAM's TIES (one call each: nine closed facts by the kernel) AND EACH ROW's TIE, after the 31st guide's Derived/Test/Toyas{Tie, Card}.lean. No idea stands in it: it is a product of the set-up. Laid BY PROGRAM, IN A SANDBOX (cutbox-door.mjs). By AI agents, Wed Nov 11 2026. No macro, syntax, notation, axiom, sorry.
-/
import Derived.Test.YbulkcrjaFmtRows
import Derived.LaidByTextLater
import Derived.SevenTiedAt
import Derived.LaidSub
import Derived.LaidOnce
namespace Go.Proofs.YbulkcrjaFmt
open Go
set_option maxRecDepth 100000
theorem seatTie1 : Ybaf.prog.laidByTextLater [("example.com/batonring/batonring.ErrCutOff", Rows.laid_example_com_batonring_batonring_ErrCutOff), ("example.com/batonring/batonring.ErrOvertaken", Rows.laid_example_com_batonring_batonring_ErrOvertaken), ("example.com/batonring/batonring.errBadFrame", Rows.laid_example_com_batonring_batonring_errBadFrame)] [.sentinel, .sentinel, .sentinel] true :=
  Program.laidByTextLater_by_one 66 8 2 (by kernel_rfl) (by kernel_rfl) (by kernel_rfl) (by kernel_rfl) (by kernel_rfl) (by kernel_rfl) (fun _ _ => by kernel_rfl)
theorem noOwnUnsafe : Ybaf.pinned.checked.prog.headLifts.contains "ownunsafe" = false := by kernel_rfl
theorem tie : Ybaf.prog.laidByTextLater [("example.com/batonring/batonring.errBadFrame", Rows.laid_example_com_batonring_batonring_errBadFrame)] [.sentinel] true :=
  Program.laidByTextLater.sub seatTie1 ["example.com/batonring/batonring.errBadFrame"] (by kernel_rfl) (by kernel_rfl)
theorem lawS4654BExact_row_tie : Rows.lawS4654BExactRow.laidByTextAt .later Ybaf.pinned [.sentinel] true :=
  OpenClaim.laidByTextAt_later rfl rfl tie noOwnUnsafe
theorem lawS4654BRefuse_row_tie : Rows.lawS4654BRefuseRow.laidByTextAt .later Ybaf.pinned [.sentinel] true :=
  OpenClaim.laidByTextAt_later rfl rfl tie noOwnUnsafe
theorem lawS4654BDamaged_row_tie : Rows.lawS4654BDamagedRow.laidByTextAt .later Ybaf.pinned [.sentinel] true :=
  OpenClaim.laidByTextAt_later rfl rfl tie noOwnUnsafe
theorem tie2 : Ybaf.prog.laidByTextLater [("example.com/batonring/batonring.ErrCutOff", Rows.laid_example_com_batonring_batonring_ErrCutOff), ("example.com/batonring/batonring.ErrOvertaken", Rows.laid_example_com_batonring_batonring_ErrOvertaken)] [.sentinel, .sentinel] true :=
  Program.laidByTextLater.sub seatTie1 ["example.com/batonring/batonring.ErrCutOff", "example.com/batonring/batonring.ErrOvertaken"] (by kernel_rfl) (by kernel_rfl)
theorem lawS4654CWrapsCutOff_row_tie : Rows.lawS4654CWrapsCutOffRow.laidByTextAt .later Ybaf.pinned [.sentinel, .sentinel] true :=
  OpenClaim.laidByTextAt_later rfl rfl tie2 noOwnUnsafe
end Go.Proofs.YbulkcrjaFmt
