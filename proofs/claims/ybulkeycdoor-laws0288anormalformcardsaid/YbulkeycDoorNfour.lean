import Derived.Test.YbulkeycDoorNlow
/- The law's test of four children, plain. -/
namespace Go.Proofs.YbulkeycDoor
open Go.RowKit N
set_option linter.unusedVariables false

theorem four_of {p q r t : C} (h1 : A p < 1152921504606846976) (h2 : idOf p % (8 * A p) = A p) (h3 : idOf q = idOf p + 2 * A p) (h4 : idOf r = idOf p + 4 * A p) (h5 : idOf t = idOf p + 6 * A p) : Four p q r t := by
  have hA := A_pos p
  have key : ∀ j, idOf (p.1, p.2 + j) = idOf p + (2 * j) * A p := by
    intro j
    show A p * (2 * (p.2 + j) + 1) = A p * (2 * p.2 + 1) + (2 * j) * A p
    rw [Nat.mul_comm (2 * j), ← Nat.mul_add]
    congr 1
    omega
  refine ⟨?_, ?_, ?_, ?_, ?_⟩
  · rcases Nat.lt_or_ge p.1 30 with h | h
    · exact h
    · exfalso
      have : 2 ^ 60 ≤ A p := Nat.pow_le_pow_right (by omega) (by omega)
      omega
  · have e : idOf p % (8 * A p) = A p * ((2 * p.2 + 1) % 8) := by
      show A p * (2 * p.2 + 1) % (8 * A p) = _
      rw [Nat.mul_comm 8, Nat.mul_mod_mul_left]
    rw [e] at h2
    have h6 : (2 * p.2 + 1) % 8 = 1 := Nat.eq_of_mul_eq_mul_left hA (by rw [h2, Nat.mul_one])
    omega
  · exact id_inj _ _ (by rw [h3, key 1])
  · exact id_inj _ _ (by rw [h4, key 2])
  · exact id_inj _ _ (by rw [h5, key 3])

theorem A_small (p : C) (h : A p < 1152921504606846976) : A p ≤ 288230376151711744 := by
  have h1 : p.1 < 30 := by
    rcases Nat.lt_or_ge p.1 30 with h | h'
    · exact h
    · exfalso
      have : 2 ^ 60 ≤ A p := Nat.pow_le_pow_right (by omega) (by omega)
      omega
  have : A p ≤ 2 ^ 58 := Nat.pow_le_pow_right (by omega) (by omega)
  omega

theorem rem_nat (X m : Nat) : ((X : Int).tmod (m : Int)) = ((X % m : Nat) : Int) := rfl
end Go.Proofs.YbulkeycDoor
