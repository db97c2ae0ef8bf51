import Derived.Test.YbulkeycDoorLow
import Derived.Test.YbulkeycDoorBits
import Derived.BigQuiet
namespace Go.Proofs.YbulkeycDoor
open Go.RowKit
set_option linter.unusedVariables false

def TabIJ (w : World) : Prop := ∀ o p, o < 4 → p < 4 → w.cell? ⟨1, 4 * o + p, none⟩ = some (.int .i64 (M.ijT o p))
def TabOr (w : World) : Prop := ∀ p, p < 4 → w.cell? ⟨2, p, none⟩ = some (.int .i64 (M.orT p))

set_option maxHeartbeats 400000 in
theorem descend_any (o P L : Nat) (ho : o < 4) (hL : L ≤ 30) (w : World) (h1 : TabIJ w) (h2 : TabOr w) :
    Calls Ybad.prog 18 #[.int .i64 o, .int .u64 P, .int .i64 L] w fun e w' => e = .returned (.tuple #[.int .i64 (M.desc L o P).1, .int .i64 (M.desc L o P).2.1, .int .i64 (M.desc L o P).2.2]) ∧ w' = w := by
  go_enter Ybad.func18, Ybad.ntmps18
  go_wp2
  go_loop [0, 6, 7, 9] (fun a i j l => ∃ k d : Nat, k + d = L ∧ l = .int .i64 ((d : Int) - 1) ∧ a = .int .i64 (M.desc k o (P / 4 ^ d)).2.2 ∧ i = .int .i64 (M.desc k o (P / 4 ^ d)).1 ∧ j = .int .i64 (M.desc k o (P / 4 ^ d)).2.1) (fun _ _ _ l => (intOf l + 1).toNat)
  case atStart => exact ⟨0, L, by omega, rfl, rfl, rfl, rfl⟩
  case round =>
    obtain ⟨k, d, hkd, rfl, rfl, rfl, rfl⟩ := hrel
    match d with
    | 0 =>
      have e0 : k = L := by omega
      subst e0
      go_wp2
      go_ret3
      exact ⟨rfl, rfl⟩
    | d + 1 =>
      have hb := M.desc_lt k o (P / 4 ^ (d + 1)) ho
      have hn : M.desc (k + 1) o (P / 4 ^ d) = (2 * (M.desc k o (P / 4 ^ (d + 1))).1 + M.ijT (M.desc k o (P / 4 ^ (d + 1))).2.2 (P / 4 ^ d % 4) / 2, 2 * (M.desc k o (P / 4 ^ (d + 1))).2.1 + M.ijT (M.desc k o (P / 4 ^ (d + 1))).2.2 (P / 4 ^ d % 4) % 2, (M.desc k o (P / 4 ^ (d + 1))).2.2 ^^^ M.orT (P / 4 ^ d % 4)) := by
        have e : P / 4 ^ d / 4 = P / 4 ^ (d + 1) := by rw [Nat.div_div_eq_div_mul, Nat.pow_succ]
        rw [← e]; rfl
      have key : bits BinOp.and IntKind.i64 (wrap64 (↑P / 2 ^ (2 * d))) 3 = ((P / 4 ^ d % 4 : Nat) : Int) := by
        rw [← i64_and3_wrap, M.pow4]; simp
      generalize (M.desc k o (P / 4 ^ (d + 1))).1 = I at *
      generalize (M.desc k o (P / 4 ^ (d + 1))).2.1 = J at *
      generalize (M.desc k o (P / 4 ^ (d + 1))).2.2 = O at *
      obtain ⟨hI, hJ, hO⟩ := hb
      have hp4 : P / 4 ^ d % 4 < 4 := by omega
      generalize hp : P / 4 ^ d % 4 = p at key hn hp4
      clear hp
      have hij4 := M.ijT_lt O p hO hp4
      have hor4 : M.orT p < 4 := by have : ∀ p, p < 4 → M.orT p < 4 := by decide
                                    exact this p hp4
      have hc1 := h1 O p hO hp4
      have hc2 := h2 p hp4
      rw [Nat.mul_comm] at hc1
      have hI' : I < 536870912 := by
        have : 2 ^ k ≤ 2 ^ 29 := Nat.pow_le_pow_right (by decide) (by omega)
        omega
      have hJ' : J < 536870912 := by
        have : 2 ^ k ≤ 2 ^ 29 := Nat.pow_le_pow_right (by decide) (by omega)
        omega
      generalize M.ijT O p = ij at *
      generalize M.orT p = r at *
      clear h1 h2 hI hJ
      have kI : bits BinOp.or IntKind.i64 (↑I * 2) (↑ij / 2) = ((2 * I + ij / 2 : Nat) : Int) := by
        have := i64_shl_or I (ij / 2) (by omega) (by omega)
        rw [← this]; rfl
      have kJ : bits BinOp.or IntKind.i64 (↑J * 2) (bits BinOp.and IntKind.i64 (↑ij) 1) = ((2 * J + ij % 2 : Nat) : Int) := by
        rw [i64_and1_nat ij (by omega)]; exact i64_shl_or J (ij % 2) (by omega) (by omega)
      have kO : bits BinOp.xor IntKind.i64 ↑O ↑r = ((O ^^^ r : Nat) : Int) := i64_xor_nat O r (by omega) (by omega)
      have HI : Hid (bits BinOp.or IntKind.i64 (↑I * 2) (↑ij / 2) = ((2 * I + ij / 2 : Nat) : Int)) := kI
      have HJ : Hid (bits BinOp.or IntKind.i64 (↑J * 2) (bits BinOp.and IntKind.i64 (↑ij) 1) = ((2 * J + ij % 2 : Nat) : Int)) := kJ
      have HO : Hid (bits BinOp.xor IntKind.i64 ↑O ↑r = ((O ^^^ r : Nat) : Int)) := kO
      have HN : Hid (M.desc (k + 1) o (P / 4 ^ d) = (2 * I + ij / 2, 2 * J + ij % 2, O ^^^ r)) := hn
      clear kI kJ kO hn
      go_wp2
      go_round
      case rel => exact ⟨k + 1, d, by omega, rfl, by rw [HN.out, HO.out], by rw [HN.out, HI.out], by rw [HN.out, HJ.out]⟩
      case measure => simp [intOf]
end Go.Proofs.YbulkeycDoor
