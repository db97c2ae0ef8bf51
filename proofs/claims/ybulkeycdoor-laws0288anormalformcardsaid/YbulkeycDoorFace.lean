import Derived.Test.YbulkeycDoorDesc
namespace Go.Proofs.YbulkeycDoor
open Go.RowKit
set_option linter.unusedVariables false

theorem w64_in (n : Int) (h : -9223372036854775808 ≤ n ∧ n ≤ 9223372036854775807) : wrap64 n = n := by unfold wrap64; omega
theorem w64_nat (n : Nat) (h : n ≤ 1073741824) : wrap64 (n : Int) = n := w64_in _ (by omega)

theorem level_any (x : Int) (lv f q : Nat) (hl : lv ≤ 30) (hf : f ≤ 5) (hq : q < 4 ^ lv) (hx : x = ((M.idq f (30 - lv) q : Nat) : Int)) (w : World) (hT : Tab w) :
    Calls Ybad.prog 9 #[.int .u64 x] w fun e w' => e = .returned (.tuple #[.int .i64 lv, .bool true]) ∧ w' = w := by
  have hq' : q < 4 ^ (30 - (30 - lv)) := by rw [show 30 - (30 - lv) = lv by omega]; exact hq
  have h1 := M.idq_lt f (30 - lv) q hf (by omega) hq'
  have h2 := M.idq_face f (30 - lv) q hf (by omega) hq'
  have h3 := M.idq_odd f (30 - lv) q (by omega)
  have hz := tz_any x (2 * (30 - lv)) (4 ^ (30 - (30 - lv)) * f + q) (by rw [hx, h3]) (by rw [← h3]; exact h1.2) w hT
  have := level_core x (30 - lv) (2 * (30 - lv)) w hT (by omega) (by omega) (by rw [hx]; generalize M.idq f (30 - lv) q = X at *; omega) (by omega) hz
  have e : (30 : Int) - ((30 - lv : Nat) : Int) = (lv : Int) := by omega
  rw [e] at this
  exact this

set_option maxHeartbeats 400000 in
theorem face_core (x : Int) (f lv Q I J O : Nat) (hf : f ≤ 5) (hs : lv ≤ 30) (w : World) (hI : I * 2 ^ (30 - lv) < 1073741824) (hJ : J * 2 ^ (30 - lv) < 1073741824)
    (k61 : x / 2305843009213693952 = f) (kq : x / 2 ^ (2 * (30 - lv) + 1) = (Q : Int))
    (hlev : Calls Ybad.prog 9 #[.int .u64 x] w fun e w' => e = .returned (.tuple #[.int .i64 lv, .bool true]) ∧ w' = w)
    (hdesc : Calls Ybad.prog 18 #[.int .i64 (f % 2 : Nat), .int .u64 Q, .int .i64 lv] w fun e w' => e = .returned (.tuple #[.int .i64 I, .int .i64 J, .int .i64 O]) ∧ w' = w) :
    Calls Ybad.prog 11 #[.int .u64 x] w fun e w' => e = .returned (.tuple #[.int .i64 f, .int .i64 (I * 2 ^ (30 - lv) : Nat), .int .i64 (J * 2 ^ (30 - lv) : Nat), .int .i64 (2 ^ (30 - lv) : Nat)]) ∧ ∃ n, w' = w.drewN n := by
  have HL : Hid (Calls Ybad.prog 9 #[.int .u64 x] w fun e w' => e = .returned (.tuple #[.int .i64 lv, .bool true]) ∧ w' = w) := hlev
  obtain ⟨m, hm⟩ : ∃ m : Nat, m = f % 2 := ⟨_, rfl⟩
  rw [← hm] at hdesc
  have km : bits BinOp.and IntKind.i64 (↑f) 1 = (m : Int) := by rw [i64_and1_nat f (by omega), hm]
  clear hm
  have HD : Hid (Calls Ybad.prog 18 #[.int .i64 m, .int .u64 Q, .int .i64 lv] w fun e w' => e = .returned (.tuple #[.int .i64 I, .int .i64 J, .int .i64 O]) ∧ w' = w) := hdesc
  clear hlev hdesc
  have kS : 2 ^ (30 - lv) ≤ 1073741824 := Nat.pow_le_pow_right (n := 2) (j := 30) (by decide) (by omega)
  have HI : Hid (wrap64 (↑I * 2 ^ (30 - lv)) = ((I * 2 ^ (30 - lv) : Nat) : Int)) := by
    show _ = _
    rw [← w64_in ((I * 2 ^ (30 - lv) : Nat) : Int) (by omega)]; simp
  have HJ : Hid (wrap64 (↑J * 2 ^ (30 - lv)) = ((J * 2 ^ (30 - lv) : Nat) : Int)) := by
    show _ = _
    rw [← w64_in ((J * 2 ^ (30 - lv) : Nat) : Int) (by omega)]; simp
  have HS : Hid (wrap64 (2 ^ (30 - lv)) = ((2 ^ (30 - lv) : Nat) : Int)) := by
    show _ = _
    rw [show (2 : Int) ^ (30 - lv) = ((2 ^ (30 - lv) : Nat) : Int) by simp]; exact w64_nat _ kS
  clear kS
  go_enter Ybad.func11, Ybad.ntmps11
  go_wp2_with (first | (go_at_call 9; refine HL.out.mono ?_; rintro e w' ⟨rfl, rfl⟩) | (go_at_call 18; refine HD.out.mono ?_; rintro e w' ⟨rfl, rfl⟩))
  go_quiet (fail)
  go_wp2
  refine bodyPost_ret (v := .tuple #[.int .i64 f, .int .i64 (wrap64 (↑I * 2 ^ (30 - lv))), .int .i64 (wrap64 (↑J * 2 ^ (30 - lv))), .int .i64 (wrap64 (2 ^ (30 - lv)))]) (by simp [results, Ybad.results11, go_sem]) rfl ⟨?_, nq, rfl⟩
  rw [HI.out, HJ.out, HS.out]

theorem face_any (x : Int) (f lv q : Nat) (hf : f ≤ 5) (hl : lv ≤ 30) (hq : q < 4 ^ lv) (hx : x = ((M.idq f (30 - lv) q : Nat) : Int)) (w : World) (hT : Tab w) (h1 : TabIJ w) (h2 : TabOr w) :
    Calls Ybad.prog 11 #[.int .u64 x] w fun e w' => e = .returned (.tuple #[.int .i64 f, .int .i64 ((M.desc lv (f % 2) q).1 * 2 ^ (30 - lv) : Nat), .int .i64 ((M.desc lv (f % 2) q).2.1 * 2 ^ (30 - lv) : Nat), .int .i64 (2 ^ (30 - lv) : Nat)]) ∧ ∃ n, w' = w.drewN n := by
  have hq' : q < 4 ^ (30 - (30 - lv)) := by rw [show 30 - (30 - lv) = lv by omega]; exact hq
  have g1 := M.idq_lt f (30 - lv) q hf (by omega) hq'
  have g2 := M.idq_face f (30 - lv) q hf (by omega) hq'
  have g3 := M.idq_pos f (30 - lv) q (by omega)
  rw [show 30 - (30 - lv) = lv by omega] at g3
  have hd := descend_any (f % 2) (4 ^ lv * f + q) lv (by omega) hl w h1 h2
  rw [M.desc_face] at hd
  have hb := M.desc_lt lv (f % 2) q (by omega)
  have e30 : (1073741824 : Nat) = 2 ^ lv * 2 ^ (30 - lv) := by rw [← Nat.pow_add, show lv + (30 - lv) = 30 by omega]
  have hp : 0 < 2 ^ (30 - lv) := Nat.two_pow_pos _
  refine face_core x f lv (4 ^ lv * f + q) _ _ (M.desc lv (f % 2) q).2.2 hf hl w ?_ ?_ ?_ ?_ (level_any x lv f q hl hf hq hx w hT) hd
  · rw [e30]; exact Nat.mul_lt_mul_of_pos_right hb.1 hp
  · rw [e30]; exact Nat.mul_lt_mul_of_pos_right hb.2.1 hp
  · rw [hx]; generalize M.idq f (30 - lv) q = X at *; omega
  · rw [hx, ← g3]; simp
end Go.Proofs.YbulkeycDoor
