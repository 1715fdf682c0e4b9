/-
  Seat b4654aF: '(*decoder).fail': the first failure of a decoder, told by fmt.Errorf; a second one changes nothing but the bytes.
-/
import Derived.Test.YbulkcrjaFmtMem
import Derived.Laws.NewBlocks
namespace Go.Proofs.YbulkcrjaFmt
open Go.RowKit Go.Extern.Stop Go.Stop Go.Extern

theorem call34 (args : Array Value) (w : World) : (callFunc 34 args).run Ybaf.prog w = ((FmtStop.errorf #[9, 114] #[37] args).run Ybaf.prog w).andThen fun v w' => .ok (.value v) w' :=
  run_callFunc_extern Ybaf.func34 (by kernel_rfl) (by kernel_rfl) (by kernel_rfl) (by kernel_rfl) args w
theorem fguard (name : String) (w : World) : (FmtStop.guard name).run Ybaf.prog w = .ok () w := by kernel_rfl
theorem fmt0r (w : World) : (FmtDoors.printed ⟨#[37, 119, 58, 32, 98, 97, 100, 32, 37, 115]⟩ 2).run Ybaf.prog w = .ok [(0, 119, false), (1, 115, false)] w := by kernel_rfl
theorem fmt1r (w : World) : (FmtDoors.printed ⟨#[37, 119, 58, 32, 37, 100, 32, 118, 111, 116, 101, 115, 32, 105, 110, 32, 97, 32, 114, 105, 110, 103, 32, 111, 102, 32, 37, 100]⟩ 3).run Ybaf.prog w = .ok [(0, 119, false), (1, 100, false), (2, 100, false)] w := by kernel_rfl
theorem fmt2r (w : World) : (FmtDoors.printed ⟨#[37, 119, 58, 32, 97, 32, 99, 101, 110, 115, 117, 115, 32, 116, 111, 107, 101, 110, 32, 99, 111, 117, 110, 116, 105, 110, 103, 32, 37, 100, 32, 109, 101, 109, 98, 101, 114, 115, 32, 111, 102, 32, 37, 100]⟩ 3).run Ybaf.prog w = .ok [(0, 119, false), (1, 100, false), (2, 100, false)] w := by kernel_rfl

def shape3 : List UInt8 := [5, 3, 0, 0, 0, 0, 0, 0, 0, 105, 110, 116]
theorem op3 (name : String) (x : Int) (w : World) : (FmtStop.operand name true 100 false (.iface 3 (.int .i64 x))).run Ybaf.prog w = .ok (shape3, Go.Extern.Stop.digits 8 (x % 2 ^ 64).toNat) w := by kernel_rfl
def shape22 : List UInt8 := FmtStop.intCode .u64 :: FmtStop.pack [117, 105, 110, 116, 54, 52]
theorem op22 (name : String) (x : Int) (w : World) : (FmtStop.operand name true 100 false (.iface 22 (.int .u64 x))).run Ybaf.prog w = .ok (shape22, Go.Extern.Stop.digits 8 (x % 2 ^ 64).toNat) w := by kernel_rfl
def shape9 : List UInt8 := [12, 6, 0, 0, 0, 0, 0, 0, 0, 115, 116, 114, 105, 110, 103]
theorem op9 (name : String) (x : ByteArray) (w : World) : (FmtStop.operand name true 115 false (.iface 9 (.string x))).run Ybaf.prog w = .ok (shape9, FmtStop.pack x.data.toList) w := by kernel_rfl
theorem ptrE (w : World) : (FmtStop.ptrTo "errors.errorString").run Ybaf.prog w = .ok 129 w := by kernel_rfl
theorem elemE (w : World) : (elemOf 129).run Ybaf.prog w = .ok 131 w := by kernel_rfl
theorem textE (w : World) : (FmtDoors.textMethod 129 "Error").run Ybaf.prog w = .ok true w := by kernel_rfl
theorem ptrW (w : World) : (FmtStop.ptrTo "fmt.wrapError").run Ybaf.prog w = .ok 116 w := by kernel_rfl
theorem elemW (w : World) : (elemOf 116).run Ybaf.prog w = .ok 171 w := by kernel_rfl
theorem textW (w : World) : (FmtDoors.textMethod 116 "Error").run Ybaf.prog w = .ok true w := by kernel_rfl

/-- The sentinel as an operand of '%w': its type's name and its text, out of memory. -/
theorem opPlain (name : String) : ∃ sh : List UInt8, ∀ (a : Addr) (s : ByteArray) (w : World), w.cell? a = some (.string s) →
    (FmtStop.operand name true 119 false (.iface 129 (.pointer (some a)))).run Ybaf.prog w = .ok (sh, s.data.toList) w := by
  refine ⟨14 :: FmtStop.pack ((Ybaf.prog.typeName? 3 129).getD "").toUTF8.data.toList, fun a s w hc => ?_⟩
  have h1 : (typeStr 129).run Ybaf.prog w = .ok ((Ybaf.prog.typeName? 3 129).getD "") w := by kernel_rfl
  have d2 : Ybaf.t129.desc = .pointer 131 := rfl
  have d3 : Ybaf.t131.desc = .named "errors.errorString" 130 := rfl
  simp [FmtStop.operand, h1, d2, d3, run_load, hc]

attribute [local go_sem] call34 fguard fmt0r op3 op22 op9 ptrE elemE textE ptrW elemW textW

theorem fail_world (a : Addr) (w : World) (bd : Nat) (sv ev : Value) (hb : w.heap[bd]? = some (.cells #[sv, ev] 86 (0, 0))) (o1 : Obj) (txt : ByteArray) :
    Dec a bd ((((w.setCell ⟨bd, 1, none⟩ (.iface 116 (.pointer (some ⟨w.heap.size + 1, 0, none⟩)))).setCell ⟨bd, 0, none⟩ (.slice none 0 0)).alloc o1).alloc (.cells #[.string txt, .iface 129 (.pointer (some a))] 171)).drew none ∧
      w.grownBy ((((w.setCell ⟨bd, 1, none⟩ (.iface 116 (.pointer (some ⟨w.heap.size + 1, 0, none⟩)))).setCell ⟨bd, 0, none⟩ (.slice none 0 0)).alloc o1).alloc (.cells #[.string txt, .iface 129 (.pointer (some a))] 171)).drew (some bd) := by
  have hlt := lt_heap hb
  have h2 := heap_set0 (heap_set1 hb (.iface 116 (.pointer (some ⟨w.heap.size + 1, 0, none⟩)))) (.slice none 0 0)
  have hg : w.grownBy ((w.setCell ⟨bd, 1, none⟩ (.iface 116 (.pointer (some ⟨w.heap.size + 1, 0, none⟩)))).setCell ⟨bd, 0, none⟩ (.slice none 0 0)) (some bd) := gb_same (gb_setCell _ _ _) (gb_setCell _ _ _)
  have hsz : ((w.setCell ⟨bd, 1, none⟩ (.iface 116 (.pointer (some ⟨w.heap.size + 1, 0, none⟩)))).setCell ⟨bd, 0, none⟩ (.slice none 0 0)).heap.size = w.heap.size := by simp [World.setCell]
  generalize (w.setCell ⟨bd, 1, none⟩ (.iface 116 (.pointer (some ⟨w.heap.size + 1, 0, none⟩)))).setCell ⟨bd, 0, none⟩ (.slice none 0 0) = W at *
  refine ⟨⟨w.heap.size + 1, txt, ?_, ?_⟩, ?_⟩
  · show ((W.alloc o1).alloc _).heap[bd]? = _
    rw [Below.heap_alloc _ _ _ (by simp; omega), Below.heap_alloc _ _ _ (by omega)]
    exact h2
  · have := heap_alloc_new (W.alloc o1) (.cells #[.string txt, .iface 129 (.pointer (some a))] 171)
    rw [World.size_alloc, hsz] at this
    exact this
  · exact gb_none (gb_none (gb_none hg (World.grownBy_alloc _ _ _)) (World.grownBy_alloc _ _ _)) (gb_drew _ _)

/-- The failure's words, whatever they are: the decoder has failed; all else is as it was. -/
theorem fail_good (F : Interp) (bd : Nat) (ao : Option Addr) (n c : Nat) (what : ByteArray) (a : Addr) (w : World) (hE : Env F a w) (hb : w.heap[bd]? = some (.cells #[.slice ao n c, .nilIface] 86 (0, 0))) :
    Calls Ybaf.prog 31 #[.pointer (some ⟨bd, 0, none⟩), .string what] w fun e w' => e = .returned (.tuple #[]) ∧ Dec a bd w' none ∧ w.grownBy w' (some bd) := by
  obtain ⟨s, ht⟩ := hE.text
  have hg := hE.var
  have hF' := answers_open hE.ans
  have hlt : bd < w.heap.size := lt_heap hb
  have h0 := cell_heap hb 0
  have h1 := cell_heap hb 1
  have f0 := frozen_heap hb 0
  have f1 := frozen_heap hb 1
  simp only [List.getElem?_toArray, List.getElem?_cons_zero, List.getElem?_cons_succ] at h0 h1
  obtain ⟨sh, hsh⟩ := opPlain "fmt.errorf"
  have hop := hsh a s (w.alloc (.cells #[.iface 129 (.pointer (some a)), .iface 9 (.string what)] 20)) (cell_later ((Below.refl _ w).alloc (Nat.le_refl _) _) ht)
  clear hsh
  have HB : Hid (w.heap[bd]? = some (.cells #[.slice ao n c, .nilIface] 86 (0, 0))) := hb
  have HE : Hid (Env F a w) := hE
  clear hb hE ht
  go_enter Ybaf.func31, Ybaf.ntmps31
  go_wp2
  go_end0
  exact ⟨rfl, fail_world a w bd _ _ HB.out _ _⟩

theorem fail_bad (bd pb : Nat) (txt what : ByteArray) (a : Addr) (w : World) (hb : w.heap[bd]? = some (.cells #[.slice none 0 0, .iface 116 (.pointer (some ⟨pb, 0, none⟩))] 86 (0, 0)))
    (hp : w.heap[pb]? = some (.cells #[.string txt, .iface 129 (.pointer (some a))] 171 (0, 0))) :
    Calls Ybaf.prog 31 #[.pointer (some ⟨bd, 0, none⟩), .string what] w fun e w' => e = .returned (.tuple #[]) ∧ Dec a bd w' none ∧ w.grownBy w' (some bd) := by
  have hlt : bd < w.heap.size := lt_heap hb
  have h0 := cell_heap hb 0
  have h1 := cell_heap hb 1
  have f0 := frozen_heap hb 0
  simp only [List.getElem?_toArray, List.getElem?_cons_zero, List.getElem?_cons_succ] at h0 h1
  have hne : bd ≠ pb := by
    rintro rfl
    rw [hp] at hb
    simp at hb
  have HB : Hid (w.heap[bd]? = some (.cells #[.slice none 0 0, .iface 116 (.pointer (some ⟨pb, 0, none⟩))] 86 (0, 0))) := hb
  have HP : Hid (w.heap[pb]? = some (.cells #[.string txt, .iface 129 (.pointer (some a))] 171 (0, 0))) := hp
  clear hb hp
  go_enter Ybaf.func31, Ybaf.ntmps31
  go_wp2
  go_end0
  refine ⟨rfl, ⟨pb, txt, heap_set0 HB.out _, ?_⟩, gb_setCell _ _ _⟩
  rw [Below.heap_setCell _ _ _ _ (fun e => hne e.symm)]
  exact HP.out

/-- '(*decoder).fail': behind it the decoder has failed. -/
theorem fail_c (F : Interp) (bd : Nat) (what : ByteArray) (a : Addr) (w : World) (s : Option (List UInt8)) (hE : Env F a w) (hD : Dec a bd w s) :
    Calls Ybaf.prog 31 #[.pointer (some ⟨bd, 0, none⟩), .string what] w fun e w' => e = .returned (.tuple #[]) ∧ Dec a bd w' none ∧ w.grownBy w' (some bd) := by
  cases s with
  | none => obtain ⟨pb, txt, h1, h2⟩ := hD; exact fail_bad bd pb txt what a w h1 h2
  | some l => obtain ⟨ao, c, h1, _⟩ := hD; exact fail_good F bd ao _ c what a w hE h1
end Go.Proofs.YbulkcrjaFmt
