import Derived.Test.YbulkeycDoorNstep
import Derived.Test.YbulkeycDoorLow
import Derived.Laws.BitsAllLaws
/- leafRange, cellLevel, ancestor at a cell. -/
namespace Go.Proofs.YbulkeycDoor
open Go.RowKit N
set_option linter.unusedVariables false

theorem wrapN (n : Nat) (h : n < 18446744073709551616) : IntKind.u64.wrap (n : Int) = (n : Int) := by rw [IntKind.wrap_u64]; omega
theorem ok_lt {p : C} (h : Ok p) : hi p < 6 * 2 ^ 61 ∧ idOf p < 6 * 2 ^ 61 ∧ A p ≤ 2 ^ 60 ∧ A p ≤ idOf p := by
  have h1 := h.2
  have h2 := A_pos p
  have h3 := id_hi p
  have h4 : A p ≤ 2 ^ 60 := Nat.pow_le_pow_right (by omega) (by have := h.1; omega)
  have h5 : A p * 1 ≤ idOf p := Nat.mul_le_mul_left _ (by omega)
  have h6 : 0 < A p * (2 * p.2 + 2) := Nat.mul_pos h2 (by omega)
  have h7 : hi p < 6 * 2 ^ 61 := by unfold hi; omega
  exact ⟨h7, by omega, h4, by omega⟩
theorem lsbN {p : C} (h : Ok p) : bits BinOp.and IntKind.u64 ((idOf p : Nat) : Int) (IntKind.u64.wrap (-((idOf p : Nat) : Int))) = ((A p : Nat) : Int) := by
  obtain ⟨_, h1, h2, h2'⟩ := ok_lt h
  have h3 := Lib.and_neg 64 (2 * p.1) p.2 (by show idOf p < 2 ^ 64; omega)
  have h5 := A_pos p
  have h3' : idOf p &&& (18446744073709551616 - idOf p) = A p := h3
  generalize idOf p = X at *
  have e1 : IntKind.u64.wrap (-(X : Int)) = ((18446744073709551616 - X : Nat) : Int) := by rw [IntKind.wrap_u64]; omega
  rw [e1, u64_and_nat X _ (by omega) (by omega), h3']

theorem leaf_any {p : C} (h : Ok p) (w : World) : Calls Ybad.prog 14 #[.int .u64 ((idOf p : Nat) : Int)] w fun e w' => e = .returned (.tuple #[.int .u64 ((lo p : Nat) : Int), .int .u64 ((hi p : Nat) : Int)]) ∧ w' = w := by
  have hl := lsbN h
  obtain ⟨h1, h2, h3, h4⟩ := ok_lt h
  have e1 := id_lo p
  have e2 := id_hi p
  have h5 := A_pos p
  have w1 : IntKind.u64.wrap (((A p : Nat) : Int) - 1) = ((A p - 1 : Nat) : Int) := by rw [IntKind.wrap_u64]; omega
  have w2 : IntKind.u64.wrap (((idOf p : Nat) : Int) - ((A p - 1 : Nat) : Int)) = ((lo p : Nat) : Int) := by rw [IntKind.wrap_u64]; omega
  have w3 : IntKind.u64.wrap (((idOf p : Nat) : Int) + ((A p - 1 : Nat) : Int)) = ((hi p : Nat) : Int) := by rw [IntKind.wrap_u64]; omega
  generalize lo p = L at *
  generalize hi p = H at *
  generalize A p = a at *
  generalize idOf p = X at *
  clear e1 e2 h1 h2 h3 h4 h5
  have HL : Hid (bits BinOp.and IntKind.u64 (X : Int) (IntKind.u64.wrap (-(X : Int))) = (a : Int)) := hl
  clear hl
  have H1 : Hid _ := w1
  have H2 : Hid _ := w2
  have H3 : Hid _ := w3
  clear w1 w2 w3
  go_enter Ybad.func14, Ybad.ntmps14
  go_wp2
  go_ret2
  refine ⟨?_, rfl⟩
  show Ending.returned (.tuple #[.int .u64 (IntKind.u64.wrap ((X : Int) - IntKind.u64.wrap (bits BinOp.and IntKind.u64 (X : Int) (IntKind.u64.wrap (-(X : Int))) - 1))), .int .u64 (IntKind.u64.wrap ((X : Int) + IntKind.u64.wrap (bits BinOp.and IntKind.u64 (X : Int) (IntKind.u64.wrap (-(X : Int))) - 1)))]) = _
  rw [HL.out, H1.out, H2.out, H3.out]

/-- cellLevel at a cell. -/
theorem lev_any {p : C} (h : Ok p) (w : World) (hT : Tab w) : Calls Ybad.prog 9 #[.int .u64 ((idOf p : Nat) : Int)] w fun e w' => e = .returned (.tuple #[.int .i64 (30 - (p.1 : Int)), .bool true]) ∧ w' = w := by
  obtain ⟨_, h1, _, _⟩ := ok_lt h
  exact level_core _ p.1 (2 * p.1) w hT (by omega) h.1 (by omega) (by omega) (tz_any _ (2 * p.1) p.2 rfl (by show idOf p < 2 ^ 64; omega) w hT)
end Go.Proofs.YbulkeycDoor
