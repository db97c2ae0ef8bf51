import Derived.Test.YbulkeycDoorBid
import Derived.Lib.TrailingZeros
namespace Go.Proofs.YbulkeycDoor
open Go.RowKit
set_option linter.unusedVariables false

/-- The quadrants that the first k children take, as a set of bits. -/
def seenAt (O : Nat) : Nat → Nat
  | 0 => 0
  | k + 1 => seenAt O k ||| 2 ^ M.ijT O k

theorem seen_lt (O k : Nat) (hO : O < 4) (hk : k < 4) : seenAt O k < 16 := by
  have : ∀ O, O < 4 → ∀ k, k < 4 → seenAt O k < 16 := by decide
  exact this O hO k hk
theorem seen_all (O : Nat) (hO : O < 4) : seenAt O 4 = 15 := by
  have : ∀ O, O < 4 → seenAt O 4 = 15 := by decide
  exact this O hO

set_option maxRecDepth 100000 in
set_option maxHeartbeats 2000000 in
theorem child_core (F L R : Nat) (x : Int) (lv f I J S O c : Nat) (w : World) (hF : F < 256) (hL : L < 256) (hR : R < 18446744073709551616)
    (hl : lv < 30) (hf : f ≤ 5) (hS : 1 ≤ S) (hI : I + 2 * S ≤ 1073741824) (hJ : J + 2 * S ≤ 1073741824) (hO : O < 4)
    (hx0 : 0 ≤ x) (hx : x < 18446744073709551616) (hc : 1 ≤ c) (hc2 : c ≤ 1152921504606846976)
    (kl : bits BinOp.and IntKind.u64 x (IntKind.u64.wrap (-x)) = 4 * (c : Int))
    (h10 : Hid (Calls Ybad.prog 10 #[.int .u8 F, .int .u8 L, .int .u64 R] w fun e w' => e = .returned (.tuple #[.int .u64 x, .int .i64 lv]) ∧ w' = w))
    (ha : Hid (Calls Ybad.prog 11 #[.int .u64 x] w fun e w' => e = .returned (.tuple #[.int .i64 f, .int .i64 I, .int .i64 J, .int .i64 (2 * S : Int)]) ∧ ∃ n, w' = w.drewN n))
    (hb : Hid (∀ n k : Nat, k < 4 → Calls Ybad.prog 11 #[.int .u64 (IntKind.u64.wrap (IntKind.u64.wrap (x - 4 * (c : Int)) + IntKind.u64.wrap ((2 * (k : Int) + 1) * (c : Int))))] (w.drewN n) fun e w' => e = .returned (.tuple #[.int .i64 f, .int .i64 (I + M.ijT O k / 2 * S : Nat), .int .i64 (J + M.ijT O k % 2 * S : Nat), .int .i64 S]) ∧ ∃ n, w' = w.drewN n)) :
    Calls Ybad.prog 5 #[.int .u8 F, .int .u8 L, .int .u64 R] w fun e w' => e = .returned (.bool true) ∧ ∃ n, w' = w.drewN n := by
  go_enter Ybad.func5, Ybad.ntmps5
  go_wp2_with fail
  refine h10.out.mono ?_
  rintro e w' ⟨rfl, rfl⟩
  go_wp2_with fail
  refine ha.out.mono ?_
  rintro e w' ⟨rfl, n, rfl⟩
  go_wp2_with fail
  go_loopw [16, 17] (fun t kk wr => ∃ k : Nat, k ≤ 4 ∧ kk = .int .u64 k ∧ t = .int .i64 (seenAt O k : Nat) ∧ ∃ n, wr = w'.drewN n) (fun _ kk _ => (4 - intOf kk).toNat)
  case atStart => exact ⟨0, by omega, rfl, rfl, n, rfl⟩
  case round =>
    obtain ⟨k, hk, rfl, rfl, m, rfl⟩ := hrel
    by_cases hk4 : k < 4
    · have hcall := hb.out m k hk4
      have hij := M.ijT_lt O k hO hk4
      have hS0 : ((S : Int) == 0) = false := by simp; omega
      have hs16 := seen_lt O k hO hk4
      have hnext : Hid (seenAt O (k + 1) = seenAt O k ||| 2 ^ M.ijT O k) := rfl
      generalize M.ijT O k = ij at *
      generalize seenAt O k = t at *
      generalize ht' : seenAt O (k + 1) = t' at *
      have HTT : Hid (seenAt O (k + 1) = t') := ht'
      clear ht'
      obtain ⟨CI, hCI⟩ : ∃ CI, CI = I + ij / 2 * S := ⟨_, rfl⟩
      obtain ⟨CJ, hCJ⟩ : ∃ CJ, CJ = J + ij % 2 * S := ⟨_, rfl⟩
      rw [← hCI, ← hCJ] at hcall
      have HC : Hid (Calls Ybad.prog 11 #[.int .u64 (IntKind.u64.wrap (IntKind.u64.wrap (x - 4 * (c : Int)) + IntKind.u64.wrap ((2 * (k : Int) + 1) * (c : Int))))] (w'.drewN m) fun e w2 => e = .returned (.tuple #[.int .i64 f, .int .i64 CI, .int .i64 CJ, .int .i64 S]) ∧ ∃ n, w2 = w'.drewN n) := hcall
      clear hcall hb
      rcases (show ij = 0 ∨ ij = 1 ∨ ij = 2 ∨ ij = 3 by omega) with rfl | rfl | rfl | rfl
      · have i1 : CI ≤ I := by omega
        have i2 : I ≤ CI := by omega
        have j1 : CJ ≤ J := by omega
        have j2 : J ≤ CJ := by omega
        have fi1 : ((CI : Int) - (I : Int) != 0) = false := by simp; omega
        have fj1 : ((CJ : Int) - (J : Int) != 0) = false := by simp; omega
        have HQ : Hid (wrap64 (wrap64 (2 * (((CI : Int) - (I : Int)) / (S : Int))) + ((CJ : Int) - (J : Int)) / (S : Int)) = 0) := by
          show _ = _
          rw [show ((CI : Int) - (I : Int)) / (S : Int) = 0 by rw [show (CI : Int) - (I : Int) = 0 by omega]; exact Int.zero_ediv _, show ((CJ : Int) - (J : Int)) / (S : Int) = 0 by rw [show (CJ : Int) - (J : Int) = 0 by omega]; exact Int.zero_ediv _]
          unfold wrap64; omega
        have HT : Hid (bits .or .i64 (t : Int) 1 = ((t' : Nat) : Int)) := by
          show _ = _
          rw [hnext.out]; exact i64_or_nat t 1 (by omega) (by decide)
        clear hCI hCJ
        go_wp2_with fail
        refine HC.out.mono ?_
        rintro e w2 ⟨rfl, n2, rfl⟩
        go_wp2
        go_quiet (fail)
        rw [HQ.out]
        go_wp2
        go_roundw
        case rel => exact ⟨k + 1, by omega, by go_num, by rw [HTT.out, ← HT.out], _, rfl⟩
        case measure => simp [intOf]; omega
      · have i1 : CI ≤ I := by omega
        have i2 : I ≤ CI := by omega
        have j1 : CJ ≤ J + S := by omega
        have j2 : J + S ≤ CJ := by omega
        have fi1 : ((CI : Int) - (I : Int) != 0) = false := by simp; omega
        have fj1 : ((CJ : Int) - (J : Int) != 0) = true := by simp; omega
        have fj4 : ((CJ : Int) - (J : Int) != (S : Int)) = false := by simp; omega
        have HQ : Hid (wrap64 (wrap64 (2 * (((CI : Int) - (I : Int)) / (S : Int))) + ((CJ : Int) - (J : Int)) / (S : Int)) = 1) := by
          show _ = _
          rw [show ((CI : Int) - (I : Int)) / (S : Int) = 0 by rw [show (CI : Int) - (I : Int) = 0 by omega]; exact Int.zero_ediv _, show ((CJ : Int) - (J : Int)) / (S : Int) = 1 by rw [show (CJ : Int) - (J : Int) = (S : Int) by omega]; exact Int.ediv_self (by omega)]
          unfold wrap64; omega
        have HT : Hid (bits .or .i64 (t : Int) 2 = ((t' : Nat) : Int)) := by
          show _ = _
          rw [hnext.out]; exact i64_or_nat t 2 (by omega) (by decide)
        clear hCI hCJ
        go_wp2_with fail
        refine HC.out.mono ?_
        rintro e w2 ⟨rfl, n2, rfl⟩
        go_wp2
        go_quiet (fail)
        rw [HQ.out]
        go_wp2
        go_roundw
        case rel => exact ⟨k + 1, by omega, by go_num, by rw [HTT.out, ← HT.out], _, rfl⟩
        case measure => simp [intOf]; omega
      · have i1 : CI ≤ I + S := by omega
        have i2 : I + S ≤ CI := by omega
        have j1 : CJ ≤ J := by omega
        have j2 : J ≤ CJ := by omega
        have fi1 : ((CI : Int) - (I : Int) != 0) = true := by simp; omega
        have fi4 : ((CI : Int) - (I : Int) != (S : Int)) = false := by simp; omega
        have fj1 : ((CJ : Int) - (J : Int) != 0) = false := by simp; omega
        have HQ : Hid (wrap64 (wrap64 (2 * (((CI : Int) - (I : Int)) / (S : Int))) + ((CJ : Int) - (J : Int)) / (S : Int)) = 2) := by
          show _ = _
          rw [show ((CI : Int) - (I : Int)) / (S : Int) = 1 by rw [show (CI : Int) - (I : Int) = (S : Int) by omega]; exact Int.ediv_self (by omega), show ((CJ : Int) - (J : Int)) / (S : Int) = 0 by rw [show (CJ : Int) - (J : Int) = 0 by omega]; exact Int.zero_ediv _]
          unfold wrap64; omega
        have HT : Hid (bits .or .i64 (t : Int) 4 = ((t' : Nat) : Int)) := by
          show _ = _
          rw [hnext.out]; exact i64_or_nat t 4 (by omega) (by decide)
        clear hCI hCJ
        go_wp2_with fail
        refine HC.out.mono ?_
        rintro e w2 ⟨rfl, n2, rfl⟩
        go_wp2
        go_quiet (fail)
        rw [HQ.out]
        go_wp2
        go_roundw
        case rel => exact ⟨k + 1, by omega, by go_num, by rw [HTT.out, ← HT.out], _, rfl⟩
        case measure => simp [intOf]; omega
      · have i1 : CI ≤ I + S := by omega
        have i2 : I + S ≤ CI := by omega
        have j1 : CJ ≤ J + S := by omega
        have j2 : J + S ≤ CJ := by omega
        have fi1 : ((CI : Int) - (I : Int) != 0) = true := by simp; omega
        have fi4 : ((CI : Int) - (I : Int) != (S : Int)) = false := by simp; omega
        have fj1 : ((CJ : Int) - (J : Int) != 0) = true := by simp; omega
        have fj4 : ((CJ : Int) - (J : Int) != (S : Int)) = false := by simp; omega
        have HQ : Hid (wrap64 (wrap64 (2 * (((CI : Int) - (I : Int)) / (S : Int))) + ((CJ : Int) - (J : Int)) / (S : Int)) = 3) := by
          show _ = _
          rw [show ((CI : Int) - (I : Int)) / (S : Int) = 1 by rw [show (CI : Int) - (I : Int) = (S : Int) by omega]; exact Int.ediv_self (by omega), show ((CJ : Int) - (J : Int)) / (S : Int) = 1 by rw [show (CJ : Int) - (J : Int) = (S : Int) by omega]; exact Int.ediv_self (by omega)]
          unfold wrap64; omega
        have HT : Hid (bits .or .i64 (t : Int) 8 = ((t' : Nat) : Int)) := by
          show _ = _
          rw [hnext.out]; exact i64_or_nat t 8 (by omega) (by decide)
        clear hCI hCJ
        go_wp2_with fail
        refine HC.out.mono ?_
        rintro e w2 ⟨rfl, n2, rfl⟩
        go_wp2
        go_quiet (fail)
        rw [HQ.out]
        go_wp2
        go_roundw
        case rel => exact ⟨k + 1, by omega, by go_num, by rw [HTT.out, ← HT.out], _, rfl⟩
        case measure => simp [intOf]; omega
    · have hk : k = 4 := by omega
      subst hk
      have h15 : (((seenAt O 4 : Nat) : Int) == 15) = true := by rw [seen_all O hO]; rfl
      go_wp2
      go_ret
      exact ⟨rfl, _, rfl⟩

set_option maxHeartbeats 400000 in
theorem child_leaf (F L R : Nat) (x : Int) (w : World) (hF : F < 256) (hL : L < 256) (hR : R < 18446744073709551616)
    (h10 : Hid (Calls Ybad.prog 10 #[.int .u8 F, .int .u8 L, .int .u64 R] w fun e w' => e = .returned (.tuple #[.int .u64 x, .int .i64 30]) ∧ w' = w)) :
    Calls Ybad.prog 5 #[.int .u8 F, .int .u8 L, .int .u64 R] w fun e w' => e = .returned (.bool true) ∧ ∃ n, w' = w.drewN n := by
  go_enter Ybad.func5, Ybad.ntmps5
  go_wp2_with fail
  refine h10.out.mono ?_
  rintro e w' ⟨rfl, rfl⟩
  go_wp2_with fail
  go_ret
  exact ⟨rfl, 0, rfl⟩

theorem lsb_val (f s q : Nat) (hf : f ≤ 5) (hs : s ≤ 30) (hq : q < 4 ^ (30 - s)) :
    bits BinOp.and IntKind.u64 ((M.idq f s q : Nat) : Int) (IntKind.u64.wrap (-((M.idq f s q : Nat) : Int))) = ((2 ^ (2 * s) : Nat) : Int) := by
  have h1 := (M.idq_lt f s q hf hs hq).2
  have h2 := M.idq_odd f s q hs
  have h3 := Lib.and_neg 64 (2 * s) (4 ^ (30 - s) * f + q) (by rw [← h2]; exact h1)
  rw [← h2] at h3
  have h4 : M.idq f s q ≠ 0 := by rw [h2]; exact Nat.mul_ne_zero (Nat.ne_of_gt (Nat.two_pow_pos _)) (by omega)
  generalize M.idq f s q = X at *
  have e1 : IntKind.u64.wrap (-(X : Int)) = ((18446744073709551616 - X : Nat) : Int) := by rw [IntKind.wrap_u64]; omega
  rw [e1, u64_and_nat X _ h1 (by omega)]
  exact congrArg _ h3

theorem child_val (f s q k : Nat) (hf : f ≤ 5) (hs : s + 1 ≤ 30) (hq : q < 4 ^ (30 - (s + 1))) (hk : k < 4) :
    IntKind.u64.wrap (IntKind.u64.wrap (((M.idq f (s + 1) q : Nat) : Int) - 4 * ((2 ^ (2 * s) : Nat) : Int)) + IntKind.u64.wrap ((2 * (k : Int) + 1) * ((2 ^ (2 * s) : Nat) : Int))) = ((M.idq f s (4 * q + k) : Nat) : Int) := by
  have h1 := (M.idq_lt f (s + 1) q hf hs hq).2
  have h2 := M.child_eq f s q k
  have h3 := (M.idq_lt f s (4 * q + k) hf (by omega) (M.child_lt s q k hs hq hk)).2
  have h4 : 2 ^ (2 * (s + 1)) = 4 * 2 ^ (2 * s) := by rw [show 2 * (s + 1) = 2 * s + 2 by omega, Nat.pow_add, Nat.mul_comm]
  have h5 : 2 ^ (2 * (s + 1)) ≤ M.idq f (s + 1) q := by unfold M.idq; exact Nat.le_add_left _ _
  have h6 := pow60 s (by omega)
  have h7 : (2 * (k : Int) + 1) * ((2 ^ (2 * s) : Nat) : Int) = (((2 * k + 1) * 2 ^ (2 * s) : Nat) : Int) := by simp
  rw [h7]
  rw [h4] at h5 h2
  have h8 : (2 * k + 1) * 2 ^ (2 * s) ≤ 7 * 2 ^ (2 * s) := Nat.mul_le_mul_right _ (by omega)
  generalize (2 * k + 1) * 2 ^ (2 * s) = Y at *
  generalize 2 ^ (2 * s) = p at *
  generalize M.idq f (s + 1) q = X at *
  generalize M.idq f s (4 * q + k) = Z at *
  rw [show ((X : Int) - 4 * (p : Int)) = ((X - 4 * p : Nat) : Int) by omega, u64_wrap_nat _ (by omega), u64_wrap_nat Y (by omega), show (((X - 4 * p : Nat) : Int) + (Y : Int)) = ((X - 4 * p + Y : Nat) : Int) by omega, u64_wrap_nat _ (by omega), h2]

theorem children_walk (F L R : Nat) (hF : F < 256) (hL : L < 256) (hR : R < 18446744073709551616) (w : World) (hT : Tab w) (h1 : TabIJ w) (h2 : TabOr w) :
    Calls Ybad.prog 5 #[.int .u8 F, .int .u8 L, .int .u64 R] w fun e w' => e = .returned (.bool true) ∧ ∃ n, w' = w.drewN n := by
  have h10 := bid_core F L R hF hL hR w
  have hf : F % 6 ≤ 5 := by omega
  have hl : L % 31 ≤ 30 := by omega
  generalize F % 6 = f at *
  generalize L % 31 = lv at *
  have hq := M.bq_lt (30 - lv) R (by omega)
  generalize R % 2 ^ 61 / 2 ^ (2 * (30 - lv) + 1) = q at *
  by_cases h30 : lv = 30
  · subst h30
    exact child_leaf F L R _ w hF hL hR h10
  · obtain ⟨s, hs⟩ : ∃ s, 30 - lv = s + 1 := ⟨29 - lv, by omega⟩
    have hlv : 30 - (lv + 1) = s := by omega
    have hq2 : q < 4 ^ lv := by rw [show 30 - (30 - lv) = lv by omega] at hq; exact hq
    have ha := face_any _ f lv q hf hl hq2 rfl w hT h1 h2
    rw [hs] at ha hq h10
    have hd := M.desc_lt lv (f % 2) q (by omega)
    have hO := hd.2.2
    have hp : 1 ≤ 2 ^ s := Nat.two_pow_pos _
    have e2 : 2 ^ (s + 1) = 2 * 2 ^ s := by rw [Nat.pow_succ, Nat.mul_comm]
    have e30 : (1073741824 : Nat) = 2 ^ lv * 2 ^ (s + 1) := by rw [← Nat.pow_add, show lv + (s + 1) = 30 by omega]
    have hb : ∀ n k : Nat, k < 4 → Calls Ybad.prog 11 #[.int .u64 (IntKind.u64.wrap (IntKind.u64.wrap (((M.idq f (s + 1) q : Nat) : Int) - 4 * ((2 ^ (2 * s) : Nat) : Int)) + IntKind.u64.wrap ((2 * (k : Int) + 1) * ((2 ^ (2 * s) : Nat) : Int))))] (w.drewN n) fun e w' => e = .returned (.tuple #[.int .i64 f, .int .i64 ((M.desc lv (f % 2) q).1 * 2 ^ (s + 1) + M.ijT (M.desc lv (f % 2) q).2.2 k / 2 * 2 ^ s : Nat), .int .i64 ((M.desc lv (f % 2) q).2.1 * 2 ^ (s + 1) + M.ijT (M.desc lv (f % 2) q).2.2 k % 2 * 2 ^ s : Nat), .int .i64 (2 ^ s : Nat)]) ∧ ∃ n, w' = w.drewN n := by
      intro n k hk
      have hck := M.child_lt s q k (by omega) hq hk
      rw [show 30 - s = lv + 1 by omega] at hck
      have := face_any (IntKind.u64.wrap (IntKind.u64.wrap (((M.idq f (s + 1) q : Nat) : Int) - 4 * ((2 ^ (2 * s) : Nat) : Int)) + IntKind.u64.wrap ((2 * (k : Int) + 1) * ((2 ^ (2 * s) : Nat) : Int)))) f (lv + 1) (4 * q + k) hf (by omega) hck (by rw [hlv]; exact child_val f s q k hf (by omega) hq hk) (w.drewN n) (fun j hj => hT j hj) (fun o p ho hp => h1 o p ho hp) (fun p hp => h2 p hp)
      rw [hlv] at this
      have eI : (M.desc (lv + 1) (f % 2) (4 * q + k)).1 * 2 ^ s = (M.desc lv (f % 2) q).1 * 2 ^ (s + 1) + M.ijT (M.desc lv (f % 2) q).2.2 k / 2 * 2 ^ s := by
        simp only [M.desc, show (4 * q + k) / 4 = q by omega, show (4 * q + k) % 4 = k by omega]
        rw [e2, Nat.add_mul, Nat.mul_comm 2, Nat.mul_assoc]
      have eJ : (M.desc (lv + 1) (f % 2) (4 * q + k)).2.1 * 2 ^ s = (M.desc lv (f % 2) q).2.1 * 2 ^ (s + 1) + M.ijT (M.desc lv (f % 2) q).2.2 k % 2 * 2 ^ s := by
        simp only [M.desc, show (4 * q + k) / 4 = q by omega, show (4 * q + k) % 4 = k by omega]
        rw [e2, Nat.add_mul, Nat.mul_comm 2, Nat.mul_assoc]
      rw [eI, eJ] at this
      refine this.mono ?_
      rintro e w' ⟨rfl, m, rfl⟩
      exact ⟨rfl, n + m, World.drewN_drewN _ _ _⟩
    have b1 : (M.desc lv (f % 2) q).1 * 2 ^ (s + 1) + 2 * 2 ^ s ≤ 1073741824 := by
      rw [e30, ← e2, ← Nat.succ_mul]; exact Nat.mul_le_mul_right _ hd.1
    have b2 : (M.desc lv (f % 2) q).2.1 * 2 ^ (s + 1) + 2 * 2 ^ s ≤ 1073741824 := by
      rw [e30, ← e2, ← Nat.succ_mul]; exact Nat.mul_le_mul_right _ hd.2.1
    have hx := (M.idq_lt f (s + 1) q hf (by omega) hq).2
    have kl := lsb_val f (s + 1) q hf (by omega) hq
    rw [show 2 ^ (2 * (s + 1)) = 4 * 2 ^ (2 * s) by rw [show 2 * (s + 1) = 2 * s + 2 by omega, Nat.pow_add, Nat.mul_comm], Int.natCast_mul] at kl
    have ha' : Calls Ybad.prog 11 #[.int .u64 ((M.idq f (s + 1) q : Nat) : Int)] w fun e w' => e = .returned (.tuple #[.int .i64 f, .int .i64 ((M.desc lv (f % 2) q).1 * 2 ^ (s + 1) : Nat), .int .i64 ((M.desc lv (f % 2) q).2.1 * 2 ^ (s + 1) : Nat), .int .i64 (2 * (2 ^ s : Nat) : Int)]) ∧ ∃ n, w' = w.drewN n := by
      have e3 : (2 : Int) * ((2 ^ s : Nat) : Int) = ((2 ^ (s + 1) : Nat) : Int) := by rw [e2, Int.natCast_mul]; rfl
      rw [e3]; exact ha
    exact child_core F L R _ lv f _ _ (2 ^ s) (M.desc lv (f % 2) q).2.2 (2 ^ (2 * s)) w hF hL hR (by omega) hf hp b1 b2 hO (by omega) (by omega) (Nat.two_pow_pos _) (pow60 s (by omega)) kl h10 ha' hb
end Go.Proofs.YbulkeycDoor
