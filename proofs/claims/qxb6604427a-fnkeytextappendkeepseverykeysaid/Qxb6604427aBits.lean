/-
  The tape's bit arithmetic: an or of parts that don't meet is a sum; a mask is a remainder.
-/
import Derived.Laws.Bits64b
import Derived.WalkKit
namespace Go.Proofs.Qxb6604427a
open Go

theorem or_low (a b k : Nat) (ha : a < 2 ^ k) : a ||| (b * 2 ^ k) = a + b * 2 ^ k := by
  have h := Nat.two_pow_add_eq_or_of_lt ha b
  rw [Nat.mul_comm b, Nat.or_comm, ← h, Nat.add_comm]

theorem ofInt_toNat (k a : Nat) (ha : a < 2 ^ k) : (BitVec.ofInt k (a : Int)).toNat = a := by
  rw [BitVec.ofInt_natCast, BitVec.toNat_ofNat]; exact Nat.mod_eq_of_lt ha

theorem wrap8 (a : Nat) (h : a < 2 ^ 8) : IntKind.u8.wrap (a : Int) = (a : Int) := by
  rw [IntKind.wrap_u8]; omega
theorem or_u8 (a b : Nat) (ha : a < 256) (hb : b < 256) : bits .or .u8 (a : Int) (b : Int) = ((a ||| b : Nat) : Int) := by
  have h : a ||| b < 2 ^ 8 := Nat.or_lt_two_pow (by omega) (by omega)
  show IntKind.u8.wrap ((BitVec.ofInt 8 (a : Int) ||| BitVec.ofInt 8 (b : Int)).toNat : Int) = _
  rw [BitVec.toNat_or, ofInt_toNat 8 a (by omega), ofInt_toNat 8 b (by omega)]
  exact wrap8 _ h
theorem and_u8 (a b : Nat) (ha : a < 256) (hb : b < 256) : bits .and .u8 (a : Int) (b : Int) = ((a &&& b : Nat) : Int) := by
  have h : a &&& b < 2 ^ 8 := Nat.and_lt_two_pow _ (by omega)
  show IntKind.u8.wrap ((BitVec.ofInt 8 (a : Int) &&& BitVec.ofInt 8 (b : Int)).toNat : Int) = _
  rw [BitVec.toNat_and, ofInt_toNat 8 a (by omega), ofInt_toNat 8 b (by omega)]
  exact wrap8 _ h
theorem and_i64 (a b : Nat) (ha : a < 9223372036854775808) (hb : b < 9223372036854775808) : bits .and .i64 (a : Int) (b : Int) = ((a &&& b : Nat) : Int) := by
  have h : a &&& b < 2 ^ 63 := Nat.and_lt_two_pow _ (by omega)
  show IntKind.i64.wrap ((BitVec.ofInt 64 (a : Int) &&& BitVec.ofInt 64 (b : Int)).toNat : Int) = _
  rw [BitVec.toNat_and, ofInt_toNat 64 a (by omega), ofInt_toNat 64 b (by omega), IntKind.wrap_i64]
  omega

/-- kind | n<<4 -/
theorem or_head (k n : Nat) (hk : k ≤ 15) (hn : n ≤ 15) : bits .or .u8 (k : Int) ((n : Int) * 16) = ((k + 16 * n : Nat) : Int) := by
  have h := or_u8 k (n * 16) (by omega) (by omega)
  have e : k ||| (n * 2 ^ 4) = k + n * 2 ^ 4 := or_low k n 4 (by omega)
  rw [show ((n : Int) * 16) = ((n * 16 : Nat) : Int) by omega, h, show n * 16 = n * 2 ^ 4 by omega, e]
  omega
theorem or_240 (k : Nat) (hk : k ≤ 15) : bits .or .u8 (k : Int) 240 = ((k + 240 : Nat) : Int) := or_head k 15 hk (by omega)
theorem or_128 (a : Nat) (ha : a < 256) : bits .or .u8 (a : Int) 128 = ((a % 128 + 128 : Nat) : Int) := by
  rw [show (128 : Int) = ((128 : Nat) : Int) from rfl, or_u8 a 128 ha (by omega)]
  have e : (a % 128) ||| (1 * 2 ^ 7) = a % 128 + 1 * 2 ^ 7 := or_low (a % 128) 1 7 (by omega)
  by_cases h : a < 128
  · rw [Nat.mod_eq_of_lt h] at e ⊢
    exact congrArg Nat.cast e
  · have ha' : a = a % 128 + 1 * 2 ^ 7 := by omega
    have e2 : a ||| 128 = a % 128 + 128 := by
      rw [ha', ← e, Nat.or_assoc]
      simp
      rw [show (a % 128 ||| 128) = a % 128 ||| (1 * 2 ^ 7) from rfl, e]
      omega
    rw [e2]
theorem and_15 (a : Nat) (ha : a < 256) : bits .and .u8 (a : Int) 15 = ((a % 16 : Nat) : Int) := by
  rw [show (15 : Int) = ((15 : Nat) : Int) from rfl, and_u8 a 15 ha (by omega)]
  exact congrArg Nat.cast (Nat.and_two_pow_sub_one_eq_mod a 4)
theorem and_127 (a : Nat) (ha : a < 256) : bits .and .u8 (a : Int) 127 = ((a % 128 : Nat) : Int) := by
  rw [show (127 : Int) = ((127 : Nat) : Int) from rfl, and_u8 a 127 ha (by omega)]
  exact congrArg Nat.cast (Nat.and_two_pow_sub_one_eq_mod a 7)
theorem and_65535 (a : Nat) (ha : a < 9223372036854775808) : bits .and .i64 (a : Int) 65535 = ((a % 65536 : Nat) : Int) := by
  rw [show (65535 : Int) = ((65535 : Nat) : Int) from rfl, and_i64 a 65535 ha (by omega)]
  exact congrArg Nat.cast (Nat.and_two_pow_sub_one_eq_mod a 16)
/-- acc | c<<shift -/
theorem or_acc (a b k : Nat) (ha : a < 2 ^ k) (hk : k ≤ 63) (hb : a + b * 2 ^ k < 18446744073709551616) : bits .or .u64 (a : Int) ((b * 2 ^ k : Nat) : Int) = ((a + b * 2 ^ k : Nat) : Int) := by
  have hp : (2 : Nat) ^ k ≤ 2 ^ 63 := Nat.pow_le_pow_right (by omega) hk
  rw [bits_or_u64_nat a (b * 2 ^ k) (by omega) (by omega), or_low a b k ha]
end Go.Proofs.Qxb6604427a
