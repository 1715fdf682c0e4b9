/-
  Seat b4654aF: what the three cards share: closed facts of the program, the sentinel, one start that fits.
-/
import Derived.Test.YbulkcrjaFmtRows
import Derived.Test.YbulkcrjaFmtTie
import Derived.Test.YbulkcrjaFmtCards
import Derived.Test.YbulkcrjaFmtOpen
import Derived.ChangeSame
import Derived.ChangeVars
import Derived.ChangeMaps5
import Derived.JoinedOf
import Derived.RowKit
import Derived.RowKitTokens
import Derived.Carry
import Derived.Stop.JoinedAt
import Derived.Stop.JoinedTold
import Derived.Stop.Texts
import Derived.Stop.ErrReads
import Derived.Stop.LaidErr
import Derived.SevenTiedAt
namespace Go.Proofs.YbulkcrjaFmt
open Go.ChangeShapes Go.WideShapes Go.ChangeAt Go.RowKit Go.Kit
open Go.Extern.Stop Go.Stop Go.Extern

theorem own : ownKnob Ybaf.prog.godebug = none := by kernel_rfl
theorem laidOut : laidOutB Ybaf.pinned.checked.prog = true := by kernel_rfl
theorem stopsAre : Ybaf.pinned.checked.prog.stops = ["fmt.Sprintf", "fmt.errorf"] := by kernel_rfl
theorem stopKnobsAre : Ybaf.pinned.checked.prog.stopKnobs = [] := by kernel_rfl
theorem quiet (os : Os) : Stop.quiet Ybaf.pinned.checked.prog os := by
  intro k hk
  rw [stopKnobsAre] at hk
  cases hk
theorem gB : Ybaf.prog.globalNamed "example.com/batonring/batonring.errBadFrame" = some 0 := by kernel_rfl
theorem gBType : (Ybaf.prog.globals[0]?).map (·.type) = some 37 := by kernel_rfl
theorem cells131 : Ybaf.prog.cellsOf 131 = 1 := by kernel_rfl
theorem cells9 : Ybaf.prog.cellsOf 9 = 1 := by kernel_rfl
theorem star : "*" ++ "errors.errorString" = "*errors.errorString" := by decide
theorem row129 (u : TypeId) (h : Ybaf.prog.typeName? 3 u = some "*errors.errorString") : u = 129 :=
  typeName_ptr_named (nm := "errors.errorString") (by rw [star]; kernel_rfl) (by kernel_rfl) (by decide) u (by rw [star]; exact h)

/-! One start that fits. -/
abbrev badS : ByteArray := { data := #[98, 97, 116, 111, 110, 114, 105, 110, 103, 58, 32, 109, 97, 108, 102, 111, 114, 109, 101, 100, 32, 102, 114, 97, 109, 101] }
noncomputable def low : Nat := (World.holding Ybaf.prog default ⟨#[], #[], []⟩).heap.size
noncomputable def laidWorld (os : Os) (s : ByteArray) : World :=
  let w0 := World.holding Ybaf.prog os ⟨#[.cells #[.string s] 131], #[], []⟩
  { w0 with heap := w0.heap.modify 0 fun
      | .cells _ t frozen => .cells #[.iface 129 (.pointer (some ⟨low, 0, none⟩))] t frozen
      | o => o }
theorem laid_met (os : Os) (args : Array Value) : laidMet Ybaf.prog [("example.com/batonring/batonring.errBadFrame", Rows.laid_example_com_batonring_batonring_errBadFrame)] ((laidWorld os badS).forCall (fun _ _ => 0) ⟨#[], args, []⟩).memory :=
  laidMet_of_run (ps := [.cell 0 0, .cell low 0]) 8 (by kernel_rfl) (by kernel_rfl) (by kernel_rfl)
def zeroIn : Value := .agg #[.int .u8 0, .int .i64 0, .int .u64 0, .int .u64 0, .slice none 0 0, .int .u64 0, .slice none 0 0, .slice none 0 0]

theorem var?_grown {P : Program} {W W' : World} {n : String} {cs : Array Value} (hg : W.grownBy W' none) (h : W.var? P n = some cs) : W'.var? P n = some cs := by
  unfold World.var? at h ⊢
  cases hn : P.globalNamed n with
  | none => simp [hn] at h
  | some g =>
    simp only [hn, Option.bind_some] at h ⊢
    have hlt : g < W.heap.size := by
      rcases Nat.lt_or_ge g W.heap.size with h' | h'
      · exact h'
      · simp [Array.getElem?_eq_none h'] at h
    rw [hg.block g hlt (by simp)]
    exact h
theorem kept_grown {W W' : World} (hg : W.grownBy W' none) (L : MemPlace → Prop) : World.keptBut W W' L :=
  World.keptBut_mono (fun _ h => h.elim) (World.keptBut_none_iff.2 ⟨hg.os, hg.output, fun k hk => hg.block k hk (by simp)⟩)
end Go.Proofs.YbulkcrjaFmt
