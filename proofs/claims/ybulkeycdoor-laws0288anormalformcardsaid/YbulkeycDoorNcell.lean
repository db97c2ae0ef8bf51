import Derived.Test.YbulkeycDoorNanc
/- The cell of the law's own data (zzs0288acell). -/
namespace Go.Proofs.YbulkeycDoor
open Go.RowKit N
set_option linter.unusedVariables false

def cOf (f l x : Nat) : C := (30 - l % 31, 4 ^ (l % 31) * (f % 6) + x % 4 ^ (l % 31))
theorem cOf_ok (f l x : Nat) : Ok (cOf f l x) := by
  have hl : l % 31 ≤ 30 := by omega
  have hf : f % 6 ≤ 5 := by omega
  generalize f % 6 = F at hf
  unfold cOf
  have hq : x % 4 ^ (l % 31) < 4 ^ (30 - (30 - l % 31)) := by
    rw [show 30 - (30 - l % 31) = l % 31 by omega]
    exact Nat.mod_lt _ (Nat.pow_pos (by omega))
  have h1 := M.q_lt (30 - l % 31) _ (by omega) hq
  have h2 := M.pow61 (30 - l % 31) (by omega)
  rw [show 30 - (30 - l % 31) = l % 31 by omega] at h2
  refine ⟨by show 30 - l % 31 ≤ 30; omega, ?_⟩
  show 2 ^ (2 * (30 - l % 31)) * (2 * (4 ^ (l % 31) * (f % 6) + x % 4 ^ (l % 31)) + 2) ≤ 6 * 2 ^ 61
  have hf' : f % 6 ≤ 5 := by omega
  generalize x % 4 ^ (l % 31) = q at *
  generalize f % 6 = F at *
  rw [M.p2s] at h1 h2
  generalize 2 ^ (2 * (30 - l % 31)) = a at *
  generalize 4 ^ (l % 31) = k at *
  have e : a * (2 * (k * F + q) + 2) = (2 * a * k) * F + (q * (2 * a) + 2 * a) := by
    rw [Nat.mul_add, Nat.mul_left_comm, Nat.mul_add, Nat.mul_add]
    have e1 : 2 * (a * (k * F)) = 2 * a * k * F := by rw [← Nat.mul_assoc a, ← Nat.mul_assoc 2, ← Nat.mul_assoc 2]
    have e2 : 2 * (a * q) = q * (2 * a) := by rw [← Nat.mul_assoc, Nat.mul_comm]
    have e3 : a * 2 = 2 * a := Nat.mul_comm _ _
    omega
  rw [e, ← h2]
  have h3 : 2 ^ 61 * F ≤ 2 ^ 61 * 5 := Nat.mul_le_mul_left _ hf'
  omega
theorem cell_nat (F q s : Nat) (hs : s ≤ 30) (hq : q < 4 ^ (30 - s)) : (F * 2 ^ 61 ||| q * 2 ^ (2 * s + 1)) ||| 2 ^ (2 * s) = idOf (s, 4 ^ (30 - s) * F + q) := by
  have h1 := M.q_lt s q hs hq
  have h0 : 0 < 2 ^ (2 * s + 1) := Nat.two_pow_pos _
  have e1 : F * 2 ^ 61 ||| q * 2 ^ (2 * s + 1) = 2 ^ (2 * s + 1) * (4 ^ (30 - s) * F + q) := by
    rw [Nat.mul_comm F, M.or_add 61 F _ (by omega), M.pow61 s hs, Nat.mul_add, Nat.mul_assoc, Nat.mul_comm q]
  rw [e1, M.or_add (2 * s + 1) _ _ (Nat.pow_lt_pow_right (by omega) (by omega))]
  unfold idOf
  show _ = 2 ^ (2 * s) * (2 * (4 ^ (30 - s) * F + q) + 1)
  have ar : ∀ a X : Nat, 2 * a * X + a = a * (2 * X + 1) := fun a X => by rw [Nat.mul_add, Nat.mul_one, ← Nat.mul_assoc, Nat.mul_comm a 2]
  rw [M.p2s, ar]

theorem acell_any (f l x : Nat) (hf : f < 256) (hl : l < 256) (hx : x < 18446744073709551616) (w : World) :
    Calls Ybad.prog 12 #[.agg #[.int .u8 (f : Int), .int .u8 (l : Int), .int .u64 (x : Int)]] w fun e w' => e = .returned (.int .u64 ((idOf (cOf f l x) : Nat) : Int)) ∧ w' = w.alloc (.cells #[.int .u8 (f : Int), .int .u8 (l : Int), .int .u64 (x : Int)] 40) := by
  obtain ⟨k, hk⟩ : ∃ k, k = l % 31 := ⟨_, rfl⟩
  have hk30 : k ≤ 30 := by omega
  have hq : x % 4 ^ k < 4 ^ (30 - (30 - k)) := by
    rw [show 30 - (30 - k) = k by omega]
    exact Nat.mod_lt _ (Nat.pow_pos (by omega))
  have hn := cell_nat (f % 6) (x % 4 ^ k) (30 - k) (by omega) hq
  rw [show 30 - (30 - k) = k by omega] at hn
  have e61 : 2 * (30 - k) + 1 = 61 - 2 * k := by omega
  have e60 : 2 * (30 - k) = 60 - 2 * k := by omega
  have hq61 := M.q_lt (30 - k) _ (by omega) hq
  rw [e61] at hn hq61
  rw [e60] at hn
  have p1 : (2 : Nat) ^ (2 * k) ≤ 2 ^ 60 := Nat.pow_le_pow_right (by omega) (by omega)
  have p1' : 0 < (2 : Nat) ^ (2 * k) := Nat.two_pow_pos _
  have p2 : (2 : Nat) ^ (60 - 2 * k) ≤ 2 ^ 60 := Nat.pow_le_pow_right (by omega) (by omega)
  have hQ : x % 4 ^ k * 2 ^ (61 - 2 * k) < 2 ^ 61 := by have := Nat.two_pow_pos (61 - 2 * k); omega
  have w1 : IntKind.u64.wrap ((2 : Int) ^ (2 * k)) = ((2 ^ (2 * k) : Nat) : Int) := by
    rw [show ((2 : Int) ^ (2 * k)) = ((2 ^ (2 * k) : Nat) : Int) by push_cast; rfl, wrapN _ (by omega)]
  have w2 : IntKind.u64.wrap (((2 ^ (2 * k) : Nat) : Int) - 1) = ((2 ^ (2 * k) - 1 : Nat) : Int) := by rw [IntKind.wrap_u64]; omega
  have w3 : bits BinOp.and IntKind.u64 (x : Int) ((2 ^ (2 * k) - 1 : Nat) : Int) = ((x % 4 ^ k : Nat) : Int) := by
    rw [u64_and_nat _ _ hx (by omega), M.and_low, M.pow4]
  have w4 : IntKind.u64.wrap (((x % 4 ^ k : Nat) : Int) * 2 ^ (61 - 2 * k)) = ((x % 4 ^ k * 2 ^ (61 - 2 * k) : Nat) : Int) := by
    rw [show (((x % 4 ^ k : Nat) : Int) * 2 ^ (61 - 2 * k)) = ((x % 4 ^ k * 2 ^ (61 - 2 * k) : Nat) : Int) by push_cast; rfl, wrapN _ (Nat.lt_trans hQ (by omega))]
  have w5 : IntKind.u64.wrap ((2 : Int) ^ (60 - 2 * k)) = ((2 ^ (60 - 2 * k) : Nat) : Int) := by
    rw [show ((2 : Int) ^ (60 - 2 * k)) = ((2 ^ (60 - 2 * k) : Nat) : Int) by push_cast; rfl, wrapN _ (by omega)]
  have ef : ((f : Int) % 6 * 2305843009213693952) = ((f % 6 * 2 ^ 61 : Nat) : Int) := by omega
  have hF : f % 6 * 2 ^ 61 < 18446744073709551616 := by omega
  have HF : Hid (bits BinOp.or IntKind.u64 (bits BinOp.or IntKind.u64 ((f : Int) % 6 * 2305843009213693952) (IntKind.u64.wrap (bits BinOp.and IntKind.u64 (x : Int) (IntKind.u64.wrap (IntKind.u64.wrap (2 ^ (2 * k)) - 1)) * 2 ^ (61 - 2 * k)))) (IntKind.u64.wrap (2 ^ (60 - 2 * k))) = ((idOf (cOf f l x) : Nat) : Int)) := by
    show _ = _
    rw [w1, w2, w3, w4, w5, ef, u64_or_nat _ _ hF (Nat.lt_trans hQ (by omega)), u64_or_nat _ _ (Nat.or_lt_two_pow (n := 64) hF (Nat.lt_trans hQ (by omega))) (by omega), hn]
    unfold cOf
    rw [← hk]
  clear hQ w1 w2 w3 w4 w5 ef hF hn hq61 hq p1 p1' p2 e61 e60
  generalize idOf (cOf f l x) = Y at *
  have HK : Hid (k = l % 31) := hk
  clear hk
  go_enter Ybad.func12, Ybad.ntmps12
  go_wp2
  go_ret
  refine ⟨?_, rfl⟩
  rw [HK.out] at HF
  show Ending.returned (.int .u64 _) = _
  rw [HF.out]
end Go.Proofs.YbulkeycDoor
