/-
  DERIVED: THE SHELF's CONTRACTS AT THIS DUMP, IN PLAIN WORDS (by the shelf's own program): THE SAME DECLARATIONS UNDER THE SAME NAMES: 'import', 'namespace', 'open', 'def', 'theorem' AND NOTHING ELSE: no command of the shelf's: FOR A HAND-IN. Each laying: the table of numbers ('.._ren') and one theorem, a field a fact of the dump's own or the kernel's comparison; each contract: ONE APPLICATION.
-/
import Derived.Ground.MnProg
import Derived.Shelf.Bin.Uvarint
import Derived.Shelf.Bin.Varint
import Derived.Shelf.Bin.UvarintEmpty
import Derived.Shelf.Bin.VarintEmpty
import Derived.Test.YbulkcrjaFmtProg
namespace Go.Proofs
open Go.Shelf
def Ybaf.laysBin45_ren : Go.Shelf.Ren := ⟨fun | 45 => 32 | n => n, fun | 22 => 28 | 33 => 22 | 3 => 3 | 45 => 103 | 0 => 0 | 5 => 5 | 4 => 4 | n => n, fun | n => n⟩
theorem Ybaf.laysBin45 : Go.Proofs.LaysBin.n45 Ybaf.prog Ybaf.laysBin45_ren := {
  mixed := by kernel_rfl
  f45 := Ybaf.func32.trans (congrArg some (by kernel_rfl))
  t0 := Ybaf.underlying0
  a0 := Ybaf.isAgg0
  z0 := Ybaf.sizeOf0
  v0 := Ybaf.zeroValue0
  i0 := by kernel_rfl
  t3 := Ybaf.underlying3
  a3 := Ybaf.isAgg3
  z3 := Ybaf.sizeOf3
  v3 := Ybaf.zeroValue3
  i3 := by kernel_rfl
  t4 := Ybaf.underlying4
  a4 := Ybaf.isAgg4
  z4 := Ybaf.sizeOf4
  v4 := Ybaf.zeroValue4
  i4 := by kernel_rfl
  t5 := Ybaf.underlying5
  a5 := Ybaf.isAgg5
  z5 := Ybaf.sizeOf5
  v5 := Ybaf.zeroValue5
  i5 := by kernel_rfl
  t22 := Ybaf.underlying28
  a22 := Ybaf.isAgg28
  z22 := Ybaf.sizeOf28
  v22 := Ybaf.zeroValue28
  i22 := by kernel_rfl
  t33 := Ybaf.underlying22
  a33 := Ybaf.isAgg22
  z33 := Ybaf.sizeOf22
  v33 := Ybaf.zeroValue22
  i33 := by kernel_rfl
  t45 := Ybaf.underlying103
  a45 := Ybaf.isAgg103
  z45 := Ybaf.sizeOf103
  v45 := Ybaf.zeroValue103
  i45 := by kernel_rfl }
open Go.RowKit in
/-- binary.Uvarint: "Uvarint decodes a uint64 from buf and returns that value and the number of bytes read (> 0). If an error occurred, the value is 0 and the number of bytes n is <= 0 meaning: n == 0: buf too small; n < 0: value larger than 64 bits (overflow) and -n is the number of bytes read.": 'Lib.uvarintDec' OF buf's BYTES, both results. The world is as it was. (LAID: no walk: one application.) -/
theorem Ybaf.binary_Uvarint (g o n c : Nat) (l : List UInt8) (w : World) (hl : l.length = n) (hcell : ∀ j (hj : j < l.length), w.cell? ⟨g, o + j, none⟩ = some (.int .u8 (l[j]).toNat)) :
    Calls Ybaf.prog 32 #[.slice (some ⟨g, o, none⟩) n c] w fun e w' => e = .returned (.tuple #[.int .u64 (Lib.uvarintDec l).1, .int .i64 (Lib.uvarintDec l).2]) ∧ w' = w := Any.binary_Uvarint Ybaf.laysBin45 g o n c l w hl hcell
def Ybaf.laysBin48_ren : Go.Shelf.Ren := ⟨fun | 48 => 30 | 45 => 32 | n => n, fun | 22 => 28 | 2 => 2 | 3 => 3 | 38 => 110 | 33 => 22 | 45 => 103 | 4 => 4 | 0 => 0 | 5 => 5 | n => n, fun | n => n⟩
theorem Ybaf.laysBin48 : Go.Proofs.LaysBin.n48 Ybaf.prog Ybaf.laysBin48_ren := {
  mixed := by kernel_rfl
  f45 := Ybaf.func32.trans (congrArg some (by kernel_rfl))
  f48 := Ybaf.func30.trans (congrArg some (by kernel_rfl))
  t0 := Ybaf.underlying0
  a0 := Ybaf.isAgg0
  z0 := Ybaf.sizeOf0
  v0 := Ybaf.zeroValue0
  i0 := by kernel_rfl
  t2 := Ybaf.underlying2
  a2 := Ybaf.isAgg2
  z2 := Ybaf.sizeOf2
  v2 := Ybaf.zeroValue2
  i2 := by kernel_rfl
  t3 := Ybaf.underlying3
  a3 := Ybaf.isAgg3
  z3 := Ybaf.sizeOf3
  v3 := Ybaf.zeroValue3
  i3 := by kernel_rfl
  t4 := Ybaf.underlying4
  a4 := Ybaf.isAgg4
  z4 := Ybaf.sizeOf4
  v4 := Ybaf.zeroValue4
  i4 := by kernel_rfl
  t5 := Ybaf.underlying5
  a5 := Ybaf.isAgg5
  z5 := Ybaf.sizeOf5
  v5 := Ybaf.zeroValue5
  i5 := by kernel_rfl
  t22 := Ybaf.underlying28
  a22 := Ybaf.isAgg28
  z22 := Ybaf.sizeOf28
  v22 := Ybaf.zeroValue28
  i22 := by kernel_rfl
  t33 := Ybaf.underlying22
  a33 := Ybaf.isAgg22
  z33 := Ybaf.sizeOf22
  v33 := Ybaf.zeroValue22
  i33 := by kernel_rfl
  t38 := Ybaf.underlying110
  a38 := Ybaf.isAgg110
  z38 := Ybaf.sizeOf110
  v38 := Ybaf.zeroValue110
  i38 := by kernel_rfl
  t45 := Ybaf.underlying103
  a45 := Ybaf.isAgg103
  z45 := Ybaf.sizeOf103
  v45 := Ybaf.zeroValue103
  i45 := by kernel_rfl }
open Go.RowKit in
/-- binary.Varint: "Varint decodes an int64 from buf and returns that value and the number of bytes read (> 0). If an error occurred, the value is 0 and the number of bytes n is <= 0 ..": 'Lib.varintDec' OF buf's BYTES: what Uvarint decodes, out of the zig-zag ('Lib.unzigzag'); the count as Uvarint's. The world is as it was. (LAID: no walk: one application.) -/
theorem Ybaf.binary_Varint (g o n c : Nat) (l : List UInt8) (w : World) (hl : l.length = n) (hcell : ∀ j (hj : j < l.length), w.cell? ⟨g, o + j, none⟩ = some (.int .u8 (l[j]).toNat)) :
    Calls Ybaf.prog 30 #[.slice (some ⟨g, o, none⟩) n c] w fun e w' => e = .returned (.tuple #[.int .i64 (Lib.varintDec l).1, .int .i64 (Lib.varintDec l).2]) ∧ w' = w := Any.binary_Varint Ybaf.laysBin48 g o n c l w hl hcell
open Go.RowKit in
/-- binary.Uvarint AT A SLICE WITHOUT ELEMENTS, nil too: (0, 0): "buf too small": 'Lib.uvarintDec []'. The world is as it was. (LAID: no walk: one application.) -/
theorem Ybaf.binary_Uvarint_empty (ao : Option Addr) (c : Nat) (w : World) :
    Calls Ybaf.prog 32 #[.slice ao 0 c] w fun e w' => e = .returned (.tuple #[.int .u64 (Lib.uvarintDec []).1, .int .i64 (Lib.uvarintDec []).2]) ∧ w' = w := Any.binary_Uvarint_empty Ybaf.laysBin45 ao c w
open Go.RowKit in
/-- binary.Varint AT A SLICE WITHOUT ELEMENTS, nil too: (0, 0): 'Lib.varintDec []'. The world is as it was. (LAID: no walk: one application.) -/
theorem Ybaf.binary_Varint_empty (ao : Option Addr) (c : Nat) (w : World) :
    Calls Ybaf.prog 30 #[.slice ao 0 c] w fun e w' => e = .returned (.tuple #[.int .i64 (Lib.varintDec []).1, .int .i64 (Lib.varintDec []).2]) ∧ w' = w := Any.binary_Varint_empty Ybaf.laysBin48 ao c w
end Go.Proofs
