import Derived.Test.YbulkeycDoorBid
namespace Go.Proofs.YbulkeycDoor
open Go.RowKit
set_option linter.unusedVariables false

set_option maxHeartbeats 200000 in
theorem shape_core (F L R B : Nat) (x y : Int) (lv f I J S LI LJ : Nat) (w : World) (hF : F < 256) (hL : L < 256) (hR : R < 18446744073709551616) (hB : B < 18446744073709551616)
    (hl : lv ≤ 30) (hf : f ≤ 5) (hS : 1 ≤ S) (hI : I + S ≤ 1073741824) (hJ : J + S ≤ 1073741824) (mI : I % S = 0) (mJ : J % S = 0) (a1 : I ≤ LI) (a2 : LI < I + S) (a3 : J ≤ LJ) (a4 : LJ < J + S)
    (kf : (F : Int) % 6 = f) (kS : ((S : Int) != wrap64 (2 ^ (30 - lv))) = false)
    (ky : bits BinOp.or IntKind.u64 (bits BinOp.or IntKind.u64 (bits BinOp.andNot IntKind.u64 x (IntKind.u64.wrap (IntKind.u64.wrap (IntKind.u64.wrap (2 ^ (2 * (30 - lv))) * 2) - 1))) (bits BinOp.and IntKind.u64 (IntKind.u64.wrap (B * 2)) (IntKind.u64.wrap (IntKind.u64.wrap (IntKind.u64.wrap (2 ^ (2 * (30 - lv))) * 2) - 1)))) 1 = y)
    (h10 : Hid (Calls Ybad.prog 10 #[.int .u8 F, .int .u8 L, .int .u64 R] w fun e w' => e = .returned (.tuple #[.int .u64 x, .int .i64 lv]) ∧ w' = w))
    (ha : Hid (Calls Ybad.prog 11 #[.int .u64 x] w fun e w' => e = .returned (.tuple #[.int .i64 f, .int .i64 I, .int .i64 J, .int .i64 S]) ∧ ∃ n, w' = w.drewN n))
    (hb : Hid (∀ n, Calls Ybad.prog 11 #[.int .u64 y] (w.drewN n) fun e w' => e = .returned (.tuple #[.int .i64 f, .int .i64 LI, .int .i64 LJ, .int .i64 1]) ∧ ∃ n, w' = w.drewN n)) :
    Calls Ybad.prog 4 #[.int .u8 F, .int .u8 L, .int .u64 R, .int .u64 B] w fun e w' => e = .returned (.bool true) ∧ ∃ n, w' = w.drewN n := by
  go_enter Ybad.func4, Ybad.ntmps4
  go_wp2_with fail
  refine h10.out.mono ?_
  rintro e w' ⟨rfl, rfl⟩
  go_wp2_with fail
  refine ha.out.mono ?_
  rintro e w' ⟨rfl, n, rfl⟩
  go_wp2_with fail
  refine (hb.out n).mono ?_
  rintro e w' ⟨rfl, m, rfl⟩
  go_wp2_with fail
  go_ret
  refine ⟨?_, m, rfl⟩
  simp
  omega

theorem leaf_val (f s q B : Nat) (hf : f ≤ 5) (hs : s ≤ 30) (hq : q < 4 ^ (30 - s)) (hB : B < 18446744073709551616) :
    bits BinOp.or IntKind.u64 (bits BinOp.or IntKind.u64 (bits BinOp.andNot IntKind.u64 ((M.idq f s q : Nat) : Int) (IntKind.u64.wrap (IntKind.u64.wrap (IntKind.u64.wrap (2 ^ (2 * s)) * 2) - 1))) (bits BinOp.and IntKind.u64 (IntKind.u64.wrap (B * 2)) (IntKind.u64.wrap (IntKind.u64.wrap (IntKind.u64.wrap (2 ^ (2 * s)) * 2) - 1)))) 1 = ((M.idq f 0 (q * 4 ^ s + B % 4 ^ s) : Nat) : Int) := by
  rw [u64_pow s hs, u64_low s hs]
  have h1 := pow60 s hs
  have h2 := M.p2s s
  have h3 := (M.idq_lt f s q hf hs hq).2
  have eB : IntKind.u64.wrap ((B : Int) * 2) = ((B * 2 % 2 ^ 64 : Nat) : Int) := by rw [IntKind.wrap_u64]; omega
  have hb := M.leaf_eq f s q B hf hs hq
  have hlow : 2 ^ (2 * s + 1) - 1 < 18446744073709551616 := by omega
  have hB2 : B * 2 % 2 ^ 64 < 18446744073709551616 := Nat.mod_lt _ (by decide)
  generalize 2 ^ (2 * s + 1) - 1 = low at *
  generalize M.idq f s q = X at *
  generalize B * 2 % 2 ^ 64 = Y at *
  have e1 : (X &&& (18446744073709551615 - low)) < 2 ^ 64 := Nat.lt_of_le_of_lt Nat.and_le_left h3
  have e2 : (Y &&& low) < 2 ^ 64 := Nat.lt_of_le_of_lt Nat.and_le_left hB2
  rw [eB, u64_andNot_nat X low h3 hlow, u64_and_nat Y low hB2 hlow, u64_or_nat _ _ e1 e2, show (1 : Int) = ((1 : Nat) : Int) from rfl, u64_or_nat _ _ (Nat.or_lt_two_pow (n := 64) e1 e2) (by decide)]
  rw [← hb]

theorem tab_drewN {w : World} (h : Tab w) (n : Nat) : Tab (w.drewN n) := fun j hj => h j hj
theorem ij_drewN {w : World} (h : TabIJ w) (n : Nat) : TabIJ (w.drewN n) := fun o p ho hp => h o p ho hp
theorem or_drewN {w : World} (h : TabOr w) (n : Nat) : TabOr (w.drewN n) := fun p hp => h p hp

theorem shape_walk (F L R B : Nat) (hF : F < 256) (hL : L < 256) (hR : R < 18446744073709551616) (hB : B < 18446744073709551616) (w : World) (hT : Tab w) (h1 : TabIJ w) (h2 : TabOr w) :
    Calls Ybad.prog 4 #[.int .u8 F, .int .u8 L, .int .u64 R, .int .u64 B] w fun e w' => e = .returned (.bool true) ∧ ∃ n, w' = w.drewN n := by
  have h10 := bid_core F L R hF hL hR w
  have hf : F % 6 ≤ 5 := by omega
  have hl : L % 31 ≤ 30 := by omega
  have kf : (F : Int) % 6 = ((F % 6 : Nat) : Int) := by omega
  generalize F % 6 = f at *
  generalize L % 31 = lv at *
  have hq := M.bq_lt (30 - lv) R (by omega)
  generalize R % 2 ^ 61 / 2 ^ (2 * (30 - lv) + 1) = q at *
  have hq2 : q < 4 ^ lv := by rw [show 30 - (30 - lv) = lv by omega] at hq; exact hq
  have ha := face_any _ f lv q hf hl hq2 rfl w hT h1 h2
  have ky := leaf_val f (30 - lv) q B hf (by omega) hq hB
  have ht : B % 4 ^ (30 - lv) < 4 ^ (30 - lv) := Nat.mod_lt _ (Nat.pow_pos (by decide))
  have hlq := M.leaf_lt (30 - lv) q (B % 4 ^ (30 - lv)) (by omega) hq ht
  obtain ⟨r, t, hr, hrt, e1, e2⟩ := M.desc_split (f % 2) (by omega) lv (30 - lv) (q * 4 ^ (30 - lv) + B % 4 ^ (30 - lv))
  rw [show lv + (30 - lv) = 30 by omega] at e1 e2
  have ediv : (q * 4 ^ (30 - lv) + B % 4 ^ (30 - lv)) / 4 ^ (30 - lv) = q := by
    rw [Nat.mul_comm, Nat.mul_add_div (Nat.pow_pos (by decide)), Nat.div_eq_of_lt ht, Nat.add_zero]
  rw [ediv] at e1 e2
  have hb : ∀ n, Calls Ybad.prog 11 #[.int .u64 (M.idq f 0 (q * 4 ^ (30 - lv) + B % 4 ^ (30 - lv)) : Nat)] (w.drewN n) fun e w' => e = .returned (.tuple #[.int .i64 f, .int .i64 ((M.desc lv (f % 2) q).1 * 2 ^ (30 - lv) + r : Nat), .int .i64 ((M.desc lv (f % 2) q).2.1 * 2 ^ (30 - lv) + t : Nat), .int .i64 1]) ∧ ∃ n, w' = w.drewN n := by
    intro n
    have := face_any _ f 30 _ hf (by decide) hlq rfl (w.drewN n) (tab_drewN hT n) (ij_drewN h1 n) (or_drewN h2 n)
    rw [e1, e2, show 30 - 30 = 0 from rfl, Nat.pow_zero, Nat.mul_one, Nat.mul_one] at this
    refine this.mono ?_
    rintro e w' ⟨rfl, m, rfl⟩
    exact ⟨rfl, n + m, World.drewN_drewN _ _ _⟩
  have hd := M.desc_lt lv (f % 2) q (by omega)
  have e30 : (1073741824 : Nat) = 2 ^ lv * 2 ^ (30 - lv) := by rw [← Nat.pow_add, show lv + (30 - lv) = 30 by omega]
  have hp : 1 ≤ 2 ^ (30 - lv) := Nat.two_pow_pos _
  have hS : 2 ^ (30 - lv) ≤ 1073741824 := Nat.pow_le_pow_right (n := 2) (j := 30) (by decide) (by omega)
  have b1 : (M.desc lv (f % 2) q).1 * 2 ^ (30 - lv) + 2 ^ (30 - lv) ≤ 1073741824 := by
    rw [e30, ← Nat.succ_mul]; exact Nat.mul_le_mul_right _ hd.1
  have b2 : (M.desc lv (f % 2) q).2.1 * 2 ^ (30 - lv) + 2 ^ (30 - lv) ≤ 1073741824 := by
    rw [e30, ← Nat.succ_mul]; exact Nat.mul_le_mul_right _ hd.2.1
  have kS : ((((2 ^ (30 - lv) : Nat)) : Int) != wrap64 (2 ^ (30 - lv))) = false := by
    rw [show (2 : Int) ^ (30 - lv) = ((2 ^ (30 - lv) : Nat) : Int) by simp, w64_nat _ hS]
    exact bne_self_eq_false _
  exact shape_core F L R B _ _ lv f _ _ (2 ^ (30 - lv)) _ _ w hF hL hR hB hl hf hp b1 b2 (Nat.mul_mod_left _ _) (Nat.mul_mod_left _ _) (Nat.le_add_right _ _) (Nat.add_lt_add_left hr _) (Nat.le_add_right _ _) (Nat.add_lt_add_left hrt _)
    kf kS ky h10 ha hb
end Go.Proofs.YbulkeycDoor
