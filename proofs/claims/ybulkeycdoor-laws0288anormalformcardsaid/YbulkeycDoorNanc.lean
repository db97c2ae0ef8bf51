import Derived.Test.YbulkeycDoorNlow
/- ancestor (one level up), the cell of the law's own data. -/
namespace Go.Proofs.YbulkeycDoor
open Go.RowKit N
set_option linter.unusedVariables false

theorem par_nat {p : C} (h : Ok p) (hs : p.1 < 30) : (idOf p &&& (2 ^ 64 - 1 - (2 ^ (2 * (p.1 + 1)) - 1))) ||| 2 ^ (2 * (p.1 + 1)) = idOf (par p) := by
  obtain ⟨_, h1, _, _⟩ := ok_lt h
  rw [M.andNot_low _ _ (by omega) (by omega)]
  have e4 : 2 ^ (2 * (p.1 + 1)) = 2 ^ (2 * p.1) * 4 := by
    rw [show 2 * (p.1 + 1) = 2 * p.1 + 2 by omega, Nat.pow_add]
  have e5 : idOf p / 2 ^ (2 * (p.1 + 1)) = (2 * p.2 + 1) / 4 := by
    unfold idOf
    rw [e4, ← Nat.div_div_eq_div_mul, Nat.mul_div_cancel_left _ (Nat.two_pow_pos _)]
  rw [e5]
  show _ = 2 ^ (2 * (p.1 + 1)) * (2 * (p.2 / 4) + 1)
  generalize 2 * (p.1 + 1) = n
  have hv : (2 * p.2 + 1) / 4 = 2 * (p.2 / 4) ∨ (2 * p.2 + 1) / 4 = 2 * (p.2 / 4) + 1 := by omega
  generalize p.2 / 4 = v at hv ⊢
  have o1 : 2 ^ (n + 1) * v ||| 2 ^ n = 2 ^ (n + 1) * v + 2 ^ n := M.or_add (n + 1) v (2 ^ n) (Nat.pow_lt_pow_right (by omega) (by omega))
  have e6 : 2 ^ (n + 1) * v = 2 * v * 2 ^ n := by rw [Nat.pow_succ, Nat.mul_assoc, Nat.mul_comm]
  have e7 : 2 ^ n * (2 * v + 1) = 2 ^ (n + 1) * v + 2 ^ n := by rw [Nat.mul_add, Nat.mul_one, e6, Nat.mul_comm]
  rcases hv with h | h
  · rw [h, ← e6, o1, e7]
  · have e8 : (2 * v + 1) * 2 ^ n = 2 ^ (n + 1) * v ||| 2 ^ n := by rw [o1, Nat.mul_comm, e7]
    rw [h, e8, Nat.or_assoc, Nat.or_self, o1, e7]

theorem anc_any {p : C} (h : Ok p) (hs : p.1 < 30) (w : World) : Calls Ybad.prog 15 #[.int .u64 ((idOf p : Nat) : Int), .int .i64 (29 - (p.1 : Int))] w fun e w' => e = .returned (.int .u64 ((idOf (par p) : Nat) : Int)) ∧ w' = w := by
  have hp := par_nat h hs
  obtain ⟨_, h1, _, _⟩ := ok_lt h
  obtain ⟨l, hl⟩ : ∃ l : Nat, l + p.1 = 29 := ⟨29 - p.1, by omega⟩
  have el : (29 - (p.1 : Int)) = (l : Int) := by omega
  rw [el]
  have e2 : 2 * (p.1 + 1) = 2 * (30 - l) := by omega
  rw [e2] at hp
  have hle : 2 ^ (2 * (30 - l)) ≤ 2 ^ 60 := Nat.pow_le_pow_right (by omega) (by omega)
  have hpos : 0 < 2 ^ (2 * (30 - l)) := Nat.two_pow_pos _
  have w1 : IntKind.u64.wrap ((2 : Int) ^ (2 * (30 - l))) = ((2 ^ (2 * (30 - l)) : Nat) : Int) := by
    rw [show ((2 : Int) ^ (2 * (30 - l))) = ((2 ^ (2 * (30 - l)) : Nat) : Int) by push_cast; rfl, wrapN _ (by omega)]
  have w2 : IntKind.u64.wrap (-((2 ^ (2 * (30 - l)) : Nat) : Int)) = ((2 ^ 64 - 1 - (2 ^ (2 * (30 - l)) - 1) : Nat) : Int) := by rw [IntKind.wrap_u64]; omega
  have hl30 : l ≤ 30 := by omega
  clear el e2
  have HF : Hid (bits BinOp.or IntKind.u64 (bits BinOp.and IntKind.u64 ((idOf p : Nat) : Int) (IntKind.u64.wrap (-IntKind.u64.wrap (2 ^ (2 * (30 - l)))))) (IntKind.u64.wrap (2 ^ (2 * (30 - l)))) = ((idOf (par p) : Nat) : Int)) := by
    show _ = _
    rw [w1, w2, u64_and_nat _ _ (by omega) (by omega), u64_or_nat _ _ (Nat.lt_of_le_of_lt Nat.and_le_left (by omega)) (by omega), hp]
  clear w1 w2 hp hle hpos h1
  generalize idOf (par p) = Y at *
  generalize idOf p = X at *
  go_enter Ybad.func15, Ybad.ntmps15
  go_wp2
  go_ret
  refine ⟨?_, rfl⟩
  show Ending.returned (.int .u64 _) = _
  rw [HF.out]
end Go.Proofs.YbulkeycDoor
