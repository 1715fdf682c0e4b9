/-
  Seat b4654aF: what the three cards share: closed facts of the program, the sentinel, one start that fits.
-/
import Derived.Test.YbulkcrjaFmtRows
import Derived.Test.YbulkcrjaFmtTie
import Derived.Test.YbulkcrjaFmtCards
import Derived.Test.YbulkcrjaFmtOpen
import Derived.ChangeSame
import Derived.ChangeVars
import Derived.ChangeMaps5
import Derived.JoinedOf
import Derived.RowKit
import Derived.RowKitTokens
import Derived.Carry
import Derived.Stop.JoinedAt
import Derived.Stop.JoinedTold
import Derived.Stop.Texts
import Derived.Stop.ErrReads
import Derived.Stop.LaidErr
import Derived.SevenTiedAt
import Derived.LaidMore
import Derived.LaidHandle
namespace Go.Proofs.YbulkcrjaFmt
open Go.ChangeShapes Go.WideShapes Go.ChangeAt Go.RowKit Go.Kit
open Go.Extern.Stop Go.Stop Go.Extern

theorem own : ownKnob Ybaf.prog.godebug = none := by kernel_rfl
theorem laidOut : laidOutB Ybaf.pinned.checked.prog = true := by kernel_rfl
theorem stopsAre : Ybaf.pinned.checked.prog.stops = ["fmt.Sprintf", "fmt.errorf"] := by kernel_rfl
theorem stopKnobsAre : Ybaf.pinned.checked.prog.stopKnobs = [] := by kernel_rfl
theorem quiet (os : Os) : Stop.quiet Ybaf.pinned.checked.prog os := by
  intro k hk
  rw [stopKnobsAre] at hk
  cases hk
/-- The variable's name, and its dynamic type's, as the given row and datum bear them. -/
abbrev errName : String := Rows.lawS4654BExactSpec.vars.headD ""
def ifName {H : Type} : DataW H → String
  | .iface n _ => n
  | _ => ""
abbrev errTy : String := ifName (Rows.laid_example_com_batonring_batonring_errBadFrame (H := Unit))
theorem gB : Ybaf.prog.globalNamed errName = some 0 := by kernel_rfl
theorem gBType : (Ybaf.prog.globals[0]?).map (·.type) = some 37 := by kernel_rfl
theorem cells131 : Ybaf.prog.cellsOf 131 = 1 := by kernel_rfl
theorem cells9 : Ybaf.prog.cellsOf 9 = 1 := by kernel_rfl
theorem row129 (u : TypeId) (h : Ybaf.prog.typeName? 3 u = some errTy) : u = 129 :=
  typeName_ptr_named (nm := "errors.errorString") (by kernel_rfl) (by kernel_rfl) (by decide) u (h.trans (congrArg some (by kernel_rfl)))

/-! One start that fits. -/
theorem laid_met (os : Os) (args : Array Value) : laidMetH Ybaf.prog Rows.lawS4654BExactRow.laid ((World.doorLaid Ybaf.prog 400 os).forCall (fun _ _ => 0) ⟨#[], args, []⟩).memory :=
  laidMetH_of_parts3 (fuel := 8) (laidMet_of_run' 8 (by kernel_rfl) (by kernel_rfl)) (by kernel_rfl) (by kernel_rfl)
def zeroIn : Value := .agg #[.int .u8 0, .int .i64 0, .int .u64 0, .int .u64 0, .slice none 0 0, .int .u64 0, .slice none 0 0, .slice none 0 0]

theorem var?_grown {P : Program} {W W' : World} {n : String} {cs : Array Value} (hg : W.grownBy W' none) (h : W.var? P n = some cs) : W'.var? P n = some cs := by
  unfold World.var? at h ⊢
  cases hn : P.globalNamed n with
  | none => simp [hn] at h
  | some g =>
    simp only [hn, Option.bind_some] at h ⊢
    have hlt : g < W.heap.size := by
      rcases Nat.lt_or_ge g W.heap.size with h' | h'
      · exact h'
      · simp [Array.getElem?_eq_none h'] at h
    rw [hg.block g hlt (by simp)]
    exact h
theorem kept_grown {W W' : World} (hg : W.grownBy W' none) (L : MemPlace → Prop) : World.keptBut W W' L :=
  World.keptBut_mono (fun _ h => h.elim) (World.keptBut_none_iff.2 ⟨hg.os, hg.output, fun k hk => hg.block k hk (by simp)⟩)
end Go.Proofs.YbulkcrjaFmt
