/-
  Seat b4654a: the callees of the two laws, each as a contract: the atomics, the constructor.
-/
import Derived.Test.YbulkcrjaRows
import Derived.WalkKit
import Derived.Laws.Pointers
import Derived.Laws.LoneSync
import Derived.RegionTactic
import Derived.RegionCalls
import Derived.Conc.LoneSelect
import Derived.Conc.LoneSelectN
namespace Go.Proofs.Ybulkcrja
open Go.RowKit

/-- sync/atomic.SwapT: the cell's number is handed back, the new one is stored. -/
theorem run_call_swap {P : Program} {f : FuncId} {fn : Func} (hf : P.funcs[f]? = some fn) (hname : (fn.name == "runtime.NumGoroutine") = false) (hb : fn.body.isNone = true) (hn : Extern.findNext fn = none) (k : IntKind)
    (he : Extern.find fn = some (Extern.Atomic.swapT (.int k))) {a : Addr} {x y : Int} {w : World} (hc : w.cell? a = some (.int k x)) (hz : w.frozen? a = false) :
    (callFunc f #[.pointer (some a), .int k y]).run P w = .ok (.value (.int k x)) (w.setCell a (.int k y)) := by
  rw [run_callFunc_extern hf hname hb hn he]
  change (Sem.run P (do
    let a' ← asAddr (.pointer (some a))
    let old ← Extern.Atomic.read (.int k) a'
    store a' (.int k y) .atomic
    pure old) w).andThen _ = _
  simp [Extern.Atomic.read, asAddr, hc, hz, run_store P w a (.int k y) .atomic rfl, Result.andThen]

theorem load64 (a : Addr) (x : Int) (w : World) (hc : w.cell? a = some (.int .i64 x)) :
    Calls Yba.prog 7 #[.pointer (some a)] w fun e w' => e = .returned (.int .i64 x) ∧ w' = w := by
  have h := run_call_load (P := Yba.prog) Yba.func15 (by kernel_rfl) (by kernel_rfl) (by kernel_rfl) .i64 (by kernel_rfl) hc
  go_enter Yba.func7, Yba.ntmps7
  go_wp2
  go_ret
  exact ⟨rfl, rfl⟩

theorem loadB (a : Addr) (x : Int) (w : World) (hc : w.cell? a = some (.int .u32 x)) :
    Calls Yba.prog 8 #[.pointer (some a)] w fun e w' => e = .returned (.bool (x != 0)) ∧ w' = w := by
  have h := run_call_load (P := Yba.prog) Yba.func16 (by kernel_rfl) (by kernel_rfl) (by kernel_rfl) .u32 (by kernel_rfl) hc
  go_enter Yba.func8, Yba.ntmps8
  go_wp2
  go_ret
  exact ⟨rfl, rfl⟩

theorem store64 (a : Addr) (x y : Int) (w : World) (hc : w.cell? a = some (.int .i64 x)) (hz : w.frozen? a = false) :
    Calls Yba.prog 11 #[.pointer (some a), .int .i64 y] w fun e w' => e = .returned (.tuple #[]) ∧ w' = w.setCell a (.int .i64 y) := by
  have h := run_call_store (P := Yba.prog) Yba.func17 (by kernel_rfl) (by kernel_rfl) (by kernel_rfl) (by kernel_rfl) (k := .i64) (y := y) hc hz
  go_enter Yba.func11, Yba.ntmps11
  go_wp2
  go_end0
  exact ⟨rfl, rfl⟩

theorem swap64 (a : Addr) (x y : Int) (w : World) (hc : w.cell? a = some (.int .i64 x)) (hz : w.frozen? a = false) :
    Calls Yba.prog 13 #[.pointer (some a), .int .i64 y] w fun e w' => e = .returned (.int .i64 x) ∧ w' = w.setCell a (.int .i64 y) := by
  have h := run_call_swap (P := Yba.prog) Yba.func20 (by kernel_rfl) (by kernel_rfl) (by kernel_rfl) .i64 (by kernel_rfl) (y := y) hc hz
  go_enter Yba.func13, Yba.ntmps13
  go_wp2
  go_ret
  exact ⟨rfl, rfl⟩

/-- What a bool is stored as. -/
def b32 (b : Bool) : Int := if b then 1 else 0

theorem storeB (a : Addr) (x : Value) (b : Bool) (w : World) (hc : w.cell? a = some x) (hz : w.frozen? a = false) :
    Calls Yba.prog 12 #[.pointer (some a), .bool b] w fun e w' => e = .returned (.tuple #[]) ∧ w' = (w.setCell a (.int .u32 (b32 b))).drew := by
  have hc' : w.drew.cell? a = some x := by go_simp
  have hz' : w.drew.frozen? a = false := by go_simp
  have hst := fun y => run_call_store (P := Yba.prog) Yba.func18 (by kernel_rfl) (by kernel_rfl) (by kernel_rfl) (by kernel_rfl) (k := .u32) (y := y) hc' hz'
  cases b
  · go_enter Yba.func12, Yba.ntmps12
    go_wp2
    go_region_calls
    all_goals (go_end0; exact ⟨rfl, rfl⟩)
  · go_enter Yba.func12, Yba.ntmps12
    go_wp2
    go_region_calls
    all_goals (go_end0; exact ⟨rfl, rfl⟩)

theorem bytes26 : ∃ i, Yba.prog.info? 26 = some i ∧ i.bytes = 0 := by
  have h : (Yba.prog.info? 26).map (·.bytes) = some 0 := by kernel_rfl
  obtain ⟨i, hi, hb⟩ := Option.map_eq_some_iff.1 h
  exact ⟨i, hi, hb⟩
theorem mkchan (w : World) : (Instr.makeChan 31 (.int .i64 1)).run Yba.prog w = .ok (.chan (some w.heap.size)) (w.alloc (.chan 1 #[] false 0 0 false)) := by
  obtain ⟨i, hi, hb⟩ := bytes26
  simpa using Conc.run_makeChan (P := Yba.prog) (w := w) Yba.underlying31 hi .i64 1 (by omega) (by rw [hb]; omega)

/-- THE WORLD BEHIND THE CONSTRUCTOR: the channel's block (capacity one), then the detector's. -/
def DW (w : World) (buf : Array Value) (s : Nat) (last susp : Int) : World :=
  (w.alloc (.chan 1 buf false s 0 false)).alloc (.cells #[.int .i64 3, .int .i64 1000, .int .i64 last, .chan (some w.heap.size), .int .i64 1000, .int .i64 (-1), .bool false, .int .u32 susp, .int .i64 0, .int .i64 (-1)] 36)

set_option maxRecDepth 100000 in
theorem newdet (w : World) : Calls Yba.prog 10 #[.int .i64 3, .int .i64 1000] w fun e w' => e = .returned (.pointer (some ⟨w.heap.size + 1, 0, none⟩)) ∧ w' = DW w #[] 0 0 0 := by
  have h := mkchan
  go_enter Yba.func10, Yba.ntmps10
  go_wp2
  go_ret
  exact ⟨rfl, rfl⟩

theorem DW_chan (w : World) (buf : Array Value) (s : Nat) (last susp : Int) : (DW w buf s last susp).drew.heap[w.heap.size]? = some (.chan 1 buf false s 0 false) := by
  show ((w.heap.push _).push _)[w.heap.size]? = _
  simp [Array.getElem?_push]
theorem DW_setChan (w : World) (buf buf' : Array Value) (s s' : Nat) (last susp : Int) :
    (DW w buf s last susp).drew.setChan w.heap.size 1 buf' false s' 0 false = (DW w buf' s' last susp).drew := by
  have e : ((w.heap.push (.chan 1 buf false s 0 false)).push (.cells #[.int .i64 3, .int .i64 1000, .int .i64 last, .chan (some w.heap.size), .int .i64 1000, .int .i64 (-1), .bool false, .int .u32 susp, .int .i64 0, .int .i64 (-1)] 36)).setIfInBounds w.heap.size (.chan 1 buf' false s' 0 false)
      = (w.heap.push (.chan 1 buf' false s' 0 false)).push (.cells #[.int .i64 3, .int .i64 1000, .int .i64 last, .chan (some w.heap.size), .int .i64 1000, .int .i64 (-1), .bool false, .int .u32 susp, .int .i64 0, .int .i64 (-1)] 36) := by
    apply Array.ext_getElem?
    intro i
    simp only [Array.getElem?_setIfInBounds, Array.getElem?_push, Array.size_push]
    by_cases h : i = w.heap.size
    · subst h; simp; omega
    · by_cases h2 : i = w.heap.size + 1
      · subst h2; simp
      · have h3 : ¬ w.heap.size = i := by omega
        simp [h, h2, h3]
  simp only [World.setChan, DW, World.drew, World.alloc]
  rw [e]

/-- A CALL IN THE MACHINE OF ONE, by its contract. -/
theorem loneTo_call {P : Program} {Q : Goroutine → World → Prop} {b : Frame} {a : Act} {k : List Item} {cs : List Frame} {w : World} {ops : Array Oper} {i : Nat} {rest : List Nat} {o : Oper} {f : FuncId} {vs : Array Value} {R : Ending → World → Prop}
    (ho : ops[i]? = some o) (hw : Region.wanted o (yielded ops a.tmps) = true) (hr : (execOp a.eval o).run P w = .ok (.enter f vs) w) (hc : Calls P f vs w R)
    (hk : ∀ e w', R e w' → ∃ v, e = .returned v ∧ Conc.LoneTo P Q (Conc.G (b.at (a.put o.dst v) (.inRegion ops rest :: k)) cs) w') :
    Conc.LoneTo P Q (Conc.G (b.at a (.inRegion ops (i :: rest) :: k)) cs) w := by
  obtain ⟨e, w', fr, hR, hsteps, _, hleave⟩ := hc (b.at a (.inRegion ops (i :: rest) :: k) :: cs)
  obtain ⟨v, rfl, g', w'', hs, hq⟩ := hk e w' hR
  have hg := stepG_op (P := P) (b := b) (k := k) (cs := cs) (w := w) (rest := rest) ho hw
  have hfin : (b.at a (.inRegion ops (i :: rest) :: k)).finish v = b.at (a.put o.dst v) (.inRegion ops rest :: k) := by rw [Frame.finish_at, ho]; rfl
  have henter : step P (lone (b.at a (.inRegion ops (i :: rest) :: k)) cs w) = .next (lone (Frame.enter P f vs .normal) (b.at a (.inRegion ops (i :: rest) :: k) :: cs) w) :=
    step_lone_go (by rw [hg]; simp [stepG.apply, hr, Frame.at])
  refine ⟨g', w'', ?_, hq⟩
  refine Steps.head henter (Steps.trans hsteps (Steps.head (step_leave_returned hleave) ?_))
  rw [hfin]
  exact hs
end Go.Proofs.Ybulkcrja
