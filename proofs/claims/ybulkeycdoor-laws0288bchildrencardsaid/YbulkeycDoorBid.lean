import Derived.Test.YbulkeycDoorFace
namespace Go.Proofs.YbulkeycDoor
open Go.RowKit
set_option linter.unusedVariables false

theorem u64_wrap_nat (n : Nat) (h : n < 18446744073709551616) : IntKind.u64.wrap (n : Int) = n := by rw [IntKind.wrap_u64]; omega
theorem pow60 (s : Nat) (hs : s ≤ 30) : 2 ^ (2 * s) ≤ 1152921504606846976 := Nat.pow_le_pow_right (n := 2) (j := 60) (by decide) (by omega)
theorem u64_pow (s : Nat) (hs : s ≤ 30) : IntKind.u64.wrap (2 ^ (2 * s)) = ((2 ^ (2 * s) : Nat) : Int) := by
  rw [show (2 : Int) ^ (2 * s) = ((2 ^ (2 * s) : Nat) : Int) by simp]
  exact u64_wrap_nat _ (Nat.lt_of_le_of_lt (pow60 s hs) (by decide))
/-- 'lsb<<1 - 1'. -/
theorem u64_low (s : Nat) (hs : s ≤ 30) : IntKind.u64.wrap (IntKind.u64.wrap (((2 ^ (2 * s) : Nat) : Int) * 2) - 1) = ((2 ^ (2 * s + 1) - 1 : Nat) : Int) := by
  have h1 := pow60 s hs
  have h2 := M.p2s s
  have h3 : 0 < 2 ^ (2 * s) := Nat.two_pow_pos _
  rw [h2]
  generalize 2 ^ (2 * s) = p at *
  rw [show ((p : Int) * 2) = ((2 * p : Nat) : Int) by omega, u64_wrap_nat _ (by omega), show (((2 * p : Nat) : Int) - 1) = ((2 * p - 1 : Nat) : Int) by omega, u64_wrap_nat _ (by omega)]
theorem bid_val (f s R : Nat) (hf : f ≤ 5) (hs : s ≤ 30) (hR : R < 18446744073709551616) :
    bits BinOp.or IntKind.u64 (bits BinOp.or IntKind.u64 ((f : Int) * 2305843009213693952) (bits BinOp.and IntKind.u64 (R : Int) (bits BinOp.andNot IntKind.u64 2305843009213693951 (IntKind.u64.wrap (IntKind.u64.wrap (IntKind.u64.wrap (2 ^ (2 * s)) * 2) - 1))))) (IntKind.u64.wrap (2 ^ (2 * s))) = ((M.idq f s (R % 2 ^ 61 / 2 ^ (2 * s + 1)) : Nat) : Int) := by
  rw [u64_pow s hs, u64_low s hs]
  have h1 := pow60 s hs
  have h2 := M.p2s s
  rw [show (2305843009213693951 : Int) = ((2305843009213693951 : Nat) : Int) from rfl, u64_andNot_nat _ _ (by decide) (by omega), u64_and_nat _ _ hR (Nat.lt_of_le_of_lt Nat.and_le_left (by decide))]
  rw [show ((f : Int) * 2305843009213693952) = ((2 ^ 61 * f : Nat) : Int) by omega]
  have h3 : (R &&& (2305843009213693951 &&& (18446744073709551615 - (2 ^ (2 * s + 1) - 1)))) < 2 ^ 61 := by
    rw [← Nat.and_assoc]
    exact Nat.lt_of_le_of_lt Nat.and_le_left (Nat.lt_of_le_of_lt Nat.and_le_right (by decide))
  have hb := M.bid_eq f s R hs
  rw [u64_or_nat _ _ (by omega) (by omega), u64_or_nat _ _ ?_ (by omega), ← hb]
  have : 2 ^ 61 * f < 2 ^ 64 := by omega
  exact Nat.or_lt_two_pow (n := 64) this (by omega)

set_option maxHeartbeats 400000 in
theorem bid_core (F L R : Nat) (hF : F < 256) (hL : L < 256) (hR : R < 18446744073709551616) (w : World) :
    Calls Ybad.prog 10 #[.int .u8 F, .int .u8 L, .int .u64 R] w fun e w' => e = .returned (.tuple #[.int .u64 (M.idq (F % 6) (30 - L % 31) (R % 2 ^ 61 / 2 ^ (2 * (30 - L % 31) + 1)) : Nat), .int .i64 (L % 31 : Nat)]) ∧ w' = w := by
  have hl : L % 31 ≤ 30 := by omega
  have hf : F % 6 ≤ 5 := by omega
  go_enter Ybad.func10, Ybad.ntmps10
  go_wp2
  go_ret2
  have e := bid_val (F % 6) (30 - L % 31) R hf (by omega) hR
  refine ⟨?_, rfl⟩
  rw [← e]
  rfl
end Go.Proofs.YbulkeycDoor
