import Derived.WalkKit
namespace Go.Proofs.YbulkeycDoor
open Go.RowKit

theorem wrap_i64_small (n : Nat) (h : n < 9223372036854775808) : IntKind.i64.wrap (n : Int) = n := by
  simp [IntKind.wrap, IntKind.bits, IntKind.signed]; omega
theorem ofInt64_nat (a : Nat) (h : a < 18446744073709551616) : (BitVec.ofInt 64 (a : Int)).toNat = a := by
  rw [BitVec.ofInt_natCast, BitVec.toNat_ofNat]; exact Nat.mod_eq_of_lt (by omega)
theorem i64_or_nat (a b : Nat) (ha : a < 9223372036854775808) (hb : b < 9223372036854775808) : bits .or .i64 (a : Int) (b : Int) = ((a ||| b : Nat) : Int) := by
  have hx : a ||| b < 2 ^ 63 := Nat.or_lt_two_pow (by omega) (by omega)
  show IntKind.i64.wrap ((BitVec.ofInt 64 (a : Int) ||| BitVec.ofInt 64 (b : Int)).toNat : Int) = _
  rw [BitVec.toNat_or, ofInt64_nat a (by omega), ofInt64_nat b (by omega), wrap_i64_small _ (by omega)]
theorem i64_and_nat (a b : Nat) (ha : a < 9223372036854775808) (hb : b < 9223372036854775808) : bits .and .i64 (a : Int) (b : Int) = ((a &&& b : Nat) : Int) := by
  have hx : a &&& b < 2 ^ 63 := Nat.and_lt_two_pow _ (by omega)
  show IntKind.i64.wrap ((BitVec.ofInt 64 (a : Int) &&& BitVec.ofInt 64 (b : Int)).toNat : Int) = _
  rw [BitVec.toNat_and, ofInt64_nat a (by omega), ofInt64_nat b (by omega), wrap_i64_small _ (by omega)]
theorem i64_xor_nat (a b : Nat) (ha : a < 9223372036854775808) (hb : b < 9223372036854775808) : bits .xor .i64 (a : Int) (b : Int) = ((a ^^^ b : Nat) : Int) := by
  have hx : a ^^^ b < 2 ^ 63 := Nat.xor_lt_two_pow (by omega) (by omega)
  show IntKind.i64.wrap ((BitVec.ofInt 64 (a : Int) ^^^ BitVec.ofInt 64 (b : Int)).toNat : Int) = _
  rw [BitVec.toNat_xor, ofInt64_nat a (by omega), ofInt64_nat b (by omega), wrap_i64_small _ (by omega)]
theorem ofInt64_wrap (x : Int) : BitVec.ofInt 64 (wrap64 x) = BitVec.ofInt 64 x := by
  apply BitVec.eq_of_toNat_eq
  simp only [BitVec.toNat_ofInt]
  unfold wrap64
  congr 1
  omega
theorem i64_and3_wrap (x : Nat) : bits .and .i64 (wrap64 (x : Int)) 3 = ((x % 4 : Nat) : Int) := by
  show IntKind.i64.wrap ((BitVec.ofInt 64 (wrap64 (x : Int)) &&& BitVec.ofInt 64 3).toNat : Int) = _
  have e : (BitVec.ofInt 64 3).toNat = 2 ^ 2 - 1 := by decide
  rw [ofInt64_wrap, BitVec.toNat_and, e, Nat.and_two_pow_sub_one_eq_mod, BitVec.ofInt_natCast, BitVec.toNat_ofNat, wrap_i64_small _ (by omega)]
  omega
/-- 'i<<1 | b'. -/
theorem i64_shl_or (a b : Nat) (ha : a < 4611686018427387904) (hb : b < 2) : bits .or .i64 ((a : Int) * 2) (b : Int) = ((2 * a + b : Nat) : Int) := by
  have e : ((a : Int) * 2) = ((2 ^ 1 * a : Nat) : Int) := by omega
  rw [e, i64_or_nat _ _ (by omega) (by omega), ← Nat.two_pow_add_eq_or_of_lt (by omega)]
theorem i64_and1_nat (a : Nat) (ha : a < 9223372036854775808) : bits .and .i64 (a : Int) 1 = ((a % 2 : Nat) : Int) := by
  have := i64_and_nat a 1 ha (by decide)
  rw [Nat.and_one_is_mod] at this
  exact this
end Go.Proofs.YbulkeycDoor
