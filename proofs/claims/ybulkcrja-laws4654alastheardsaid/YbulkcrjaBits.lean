/-
  Seat b4654a: the bits that 'heard' and 'lastHeard' reckon with, in plain arithmetic.
-/
import Derived.Test.YbulkcrjaComm
import Derived.Laws.Bits128
import Derived.Laws.BitsAllLaws
namespace Go.Proofs.Ybulkcrja
open Go.RowKit

theorem wrap_i64_eq (n : Int) : IntKind.i64.wrap n = wrap64 n := by rw [IntKind.wrap_i64]; unfold wrap64; exact Eq.refl _

theorem toNat64 (x : Int) : ((BitVec.ofInt 64 x).toNat : Int) = x % 18446744073709551616 := by
  rw [BitVec.toNat_ofInt]
  exact Int.toNat_of_nonneg (Int.emod_nonneg _ (by decide))

theorem one64 : (BitVec.ofInt 64 1).toNat = 1 := by decide

theorem and1 (n : Int) : bits .and .i64 n 1 = n % 2 := by
  have h := toNat64 n
  show IntKind.i64.wrap ((BitVec.ofInt 64 n &&& BitVec.ofInt 64 1).toNat : Nat) = _
  rw [BitVec.toNat_and, one64, Nat.and_one_is_mod, wrap_i64_eq]
  unfold wrap64
  omega

theorem nat_xor2 (a b : Nat) : (a ^^^ b) % 2 = (a + b) % 2 := by
  have h := @Nat.xor_mod_two_eq_one a b
  omega

theorem wrap64_mod2 (n : Int) : wrap64 n % 2 = n % 2 := by unfold wrap64; omega

theorem big_mod2 (n : Int) : n % 18446744073709551616 % 2 = n % 2 := by omega

theorem xor64 (a b : Int) : bits .xor .i64 a b = wrap64 (((BitVec.ofInt 64 a).toNat ^^^ (BitVec.ofInt 64 b).toNat : Nat) : Int) := by
  have h : bits .xor .i64 a b = IntKind.i64.wrap ((BitVec.ofInt 64 a ^^^ BitVec.ofInt 64 b).toNat : Nat) := rfl
  rw [h, wrap_i64_eq, BitVec.toNat_xor]

theorem xor1 (a b : Int) : bits .and .i64 (bits .xor .i64 a b) 1 = (a + b) % 2 := by
  rw [and1, xor64, wrap64_mod2]
  have ha := toNat64 a
  have hb := toNat64 b
  have ha2 := big_mod2 a
  have hb2 := big_mod2 b
  rw [← ha] at ha2
  rw [← hb] at hb2
  clear ha hb
  generalize (BitVec.ofInt 64 a).toNat = A at *
  generalize (BitVec.ofInt 64 b).toNat = B at *
  have hx := nat_xor2 A B
  omega

theorem or1 (n : Int) : bits .or .i64 (wrap64 (n * 2)) 1 = wrap64 (n * 2 + 1) := by
  have h := toNat64 (wrap64 (n * 2))
  have hev : (BitVec.ofInt 64 (wrap64 (n * 2))).toNat % 2 = 0 := by unfold wrap64 at *; omega
  show IntKind.i64.wrap ((BitVec.ofInt 64 (wrap64 (n * 2)) ||| BitVec.ofInt 64 1).toNat : Nat) = _
  rw [BitVec.toNat_or, one64, nat_join 1 _ 1 (by simpa using hev) (by decide), wrap_i64_eq]
  unfold wrap64 at *
  omega

/-- What 'heard' records. -/
def atv (now : Int) (q : Bool) : Int := wrap64 (now * 2 + b32 q)

/-- Does the quiet bit turn? -/
def turns (prev : Int) (q : Bool) : Bool := (prev % 2 == 1) != q

theorem turn_bit (prev now : Int) (q : Bool) : (bits .and .i64 (bits .xor .i64 prev (atv now q)) 1 != 0) = turns prev q := by
  rw [xor1]
  unfold turns atv wrap64 b32
  rcases Int.emod_two_eq prev with h | h <;> cases q <;> simp [h] <;> omega


end Go.Proofs.Ybulkcrja
