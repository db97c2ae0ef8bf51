import Derived.Test.YbulkeycDoorMath
import Derived.Test.YbulkeycDoorRows
import Derived.WalkKit
import Derived.WalkSpells
import Derived.Laws.Bits64b
import Derived.Lib.TrailingZeros
namespace Go.Proofs.YbulkeycDoor
open Go.RowKit
set_option linter.unusedVariables false

/-- The table of the library's in its variable. -/
def Tab (w : World) : Prop := ∀ j, j < Lib.deBruijn64tab.length → w.cell? ⟨0, j, none⟩ = some (.int .u8 (Lib.deBruijn64tab.getD j 0))

set_option maxHeartbeats 1000000 in
theorem tz_core (x : Int) (k idx : Nat) (w : World) (hx0 : (x == 0) = false)
    (key : IntKind.u64.wrap (bits BinOp.and IntKind.u64 x (IntKind.u64.wrap (-x)) * 285870213051353865) / 288230376151711744 = (idx : Int))
    (hi : idx < 64) (hk : k < 64) (hcell : w.cell? ⟨0, idx, none⟩ = some (.int .u8 k)) :
    Calls Ybad.prog 17 #[.int .u64 x] w fun e w' => e = .returned (.int .i64 k) ∧ w' = w := by
  go_enter Ybad.func17, Ybad.ntmps17
  go_wp2_with (simp only [key])
  go_ret
  exact ⟨rfl, rfl⟩

theorem tz_key (x a : Nat) (hx : x < 18446744073709551616) (hx0 : x ≠ 0) (hlow : x &&& (18446744073709551616 - x) = a) :
    IntKind.u64.wrap (bits BinOp.and IntKind.u64 (x : Int) (IntKind.u64.wrap (-(x : Int))) * 285870213051353865) / 288230376151711744 = ((a * 285870213051353865 % 18446744073709551616 / 288230376151711744 : Nat) : Int) := by
  have e1 : IntKind.u64.wrap (-(x : Int)) = ((18446744073709551616 - x : Nat) : Int) := by rw [IntKind.wrap_u64]; omega
  rw [e1, bits_and_u64_nat x _ hx (by omega), hlow, IntKind.wrap_u64]
  omega

theorem tz_any (x : Int) (k m : Nat) (hx : x = ((2 ^ k * (2 * m + 1) : Nat) : Int)) (hlt : 2 ^ k * (2 * m + 1) < 2 ^ 64) (w : World) (hT : Tab w) :
    Calls Ybad.prog 17 #[.int .u64 x] w fun e w' => e = .returned (.int .i64 k) ∧ w' = w := by
  subst hx
  have hk : k < 64 := by
    apply Nat.lt_of_not_le; intro h
    have h1 : 2 ^ 64 ≤ 2 ^ k := Nat.pow_le_pow_right (by decide) h
    have h2 : 2 ^ k * 1 ≤ 2 ^ k * (2 * m + 1) := Nat.mul_le_mul_left _ (by omega)
    omega
  have hlow := Lib.and_neg 64 k m hlt
  have hne : 2 ^ k * (2 * m + 1) ≠ 0 := Nat.mul_ne_zero (Nat.ne_of_gt (Nat.two_pow_pos k)) (by omega)
  obtain ⟨hi, htab⟩ := Lib.deBruijn64_at k hk
  have hcell := hT _ hi
  rw [htab] at hcell
  generalize hX : 2 ^ k * (2 * m + 1) = X at *
  exact tz_core X k _ w (by simp; omega) (tz_key X _ hlt hne hlow) hi hk hcell

set_option maxHeartbeats 400000 in
theorem level_core (x : Int) (s k : Nat) (w : World) (hT : Tab w) (hk : (k : Int) = 2 * (s : Int)) (hs : s ≤ 30) (hf : x / 2305843009213693952 ≤ 5) (h0 : 0 ≤ x)
    (hz : Calls Ybad.prog 17 #[.int .u64 x] w fun e w' => e = .returned (.int .i64 (k : Int)) ∧ w' = w) :
    Calls Ybad.prog 9 #[.int .u64 x] w fun e w' => e = .returned (.tuple #[.int .i64 (30 - (s : Int)), .bool true]) ∧ w' = w := by
  have H : Hid (Calls Ybad.prog 17 #[.int .u64 x] w fun e w' => e = .returned (.int .i64 (k : Int)) ∧ w' = w) := hz
  clear hz hT
  have b1 : (k : Int) ≤ 60 := by omega
  have b2 : ((k : Int) % 2 != 0) = false := by simp; omega
  have b3 : (k : Int) / 2 = s := by omega
  clear hk
  go_enter Ybad.func9, Ybad.ntmps9
  go_wp2_with (go_at_call 17; refine H.out.mono ?_; rintro e w' ⟨rfl, rfl⟩)
  go_ret2
  exact ⟨rfl, rfl⟩
end Go.Proofs.YbulkeycDoor
