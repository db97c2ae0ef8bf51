import Derived.Test.YbulkeycDoorBid
namespace Go.Proofs.YbulkeycDoor
open Go.RowKit
set_option linter.unusedVariables false

theorem one_val (f p : Nat) (hf : f ≤ 5) (hp : p < 4) : bits BinOp.or IntKind.u64 (bits BinOp.or IntKind.u64 ((f : Int) * 2305843009213693952) ((p : Int) * 576460752303423488)) 288230376151711744 = ((M.idq f 29 p : Nat) : Int) := by
  rw [show ((f : Int) * 2305843009213693952) = ((2 ^ 61 * f : Nat) : Int) by omega, show ((p : Int) * 576460752303423488) = ((2 ^ 59 * p : Nat) : Int) by omega, show (288230376151711744 : Int) = ((2 ^ 58 : Nat) : Int) from rfl,
    u64_or_nat _ _ (by omega) (by omega), M.or_add 61 f _ (by omega), u64_or_nat _ _ (by omega) (by decide), show 2 ^ 61 * f + 2 ^ 59 * p = 2 ^ 59 * (4 * f + p) by omega, M.or_add 59 _ _ (by decide)]
  unfold M.idq
  congr 1
  omega

theorem one_face (x : Int) (f p b gi gj : Nat) (hf : f ≤ 5) (hp : p < 4) (hx : x = ((M.idq f 29 p : Nat) : Int)) (w : World) (hT : Tab w) (h1 : TabIJ w) (h2 : TabOr w) (hb : f % 2 = b)
    (ei : (M.desc 1 b p).1 * 2 ^ 29 = gi) (ej : (M.desc 1 b p).2.1 * 2 ^ 29 = gj) :
    Calls Ybad.prog 11 #[.int .u64 x] w fun e w' => e = .returned (.tuple #[.int .i64 f, .int .i64 (gi : Nat), .int .i64 (gj : Nat), .int .i64 536870912]) ∧ ∃ n, w' = w.drewN n := by
  have := face_any x f 1 p hf (by decide) (by omega) hx w hT h1 h2
  rw [hb, show 30 - 1 = 29 from rfl, ei, ej] at this
  exact this

set_option maxHeartbeats 400000 in
theorem one_walk_00 (F P f p : Nat) (x : Int) (hF : F < 256) (hP : P < 256) (w : World) (hf : f ≤ 5) (hp : p ≤ 0) (hb : f % 2 ≤ 0)
    (kf : (F : Int) % 6 = f) (kp : (P : Int) % 4 = p) (kx : bits BinOp.or IntKind.u64 (bits BinOp.or IntKind.u64 ((f : Int) * 2305843009213693952) ((p : Int) * 576460752303423488)) 288230376151711744 = x)
    (h : Hid (Calls Ybad.prog 11 #[.int .u64 x] w fun e w' => e = .returned (.tuple #[.int .i64 f, .int .i64 0, .int .i64 0, .int .i64 536870912]) ∧ ∃ n, w' = w.drewN n)) :
    Calls Ybad.prog 6 #[.int .u8 F, .int .u8 P] w fun e w' => e = .returned (.bool true) ∧ ∃ n, w' = w.drewN n := by
  go_enter Ybad.func6, Ybad.ntmps6
  go_wp2_with (go_at_call 11; refine h.out.mono ?_; rintro e w' ⟨rfl, n, rfl⟩)
  go_ret
  exact ⟨rfl, n, rfl⟩
set_option maxHeartbeats 400000 in
theorem one_walk_01 (F P f p : Nat) (x : Int) (hF : F < 256) (hP : P < 256) (w : World) (hf : f ≤ 5) (hp : p ≤ 1) (hp' : 1 ≤ p) (hb : f % 2 ≤ 0)
    (kf : (F : Int) % 6 = f) (kp : (P : Int) % 4 = p) (kx : bits BinOp.or IntKind.u64 (bits BinOp.or IntKind.u64 ((f : Int) * 2305843009213693952) ((p : Int) * 576460752303423488)) 288230376151711744 = x)
    (h : Hid (Calls Ybad.prog 11 #[.int .u64 x] w fun e w' => e = .returned (.tuple #[.int .i64 f, .int .i64 0, .int .i64 536870912, .int .i64 536870912]) ∧ ∃ n, w' = w.drewN n)) :
    Calls Ybad.prog 6 #[.int .u8 F, .int .u8 P] w fun e w' => e = .returned (.bool true) ∧ ∃ n, w' = w.drewN n := by
  go_enter Ybad.func6, Ybad.ntmps6
  go_wp2_with (go_at_call 11; refine h.out.mono ?_; rintro e w' ⟨rfl, n, rfl⟩)
  go_ret
  exact ⟨rfl, n, rfl⟩
set_option maxHeartbeats 400000 in
theorem one_walk_02 (F P f p : Nat) (x : Int) (hF : F < 256) (hP : P < 256) (w : World) (hf : f ≤ 5) (hp : p ≤ 2) (hp' : 2 ≤ p) (hb : f % 2 ≤ 0)
    (kf : (F : Int) % 6 = f) (kp : (P : Int) % 4 = p) (kx : bits BinOp.or IntKind.u64 (bits BinOp.or IntKind.u64 ((f : Int) * 2305843009213693952) ((p : Int) * 576460752303423488)) 288230376151711744 = x)
    (h : Hid (Calls Ybad.prog 11 #[.int .u64 x] w fun e w' => e = .returned (.tuple #[.int .i64 f, .int .i64 536870912, .int .i64 536870912, .int .i64 536870912]) ∧ ∃ n, w' = w.drewN n)) :
    Calls Ybad.prog 6 #[.int .u8 F, .int .u8 P] w fun e w' => e = .returned (.bool true) ∧ ∃ n, w' = w.drewN n := by
  go_enter Ybad.func6, Ybad.ntmps6
  go_wp2_with (go_at_call 11; refine h.out.mono ?_; rintro e w' ⟨rfl, n, rfl⟩)
  go_ret
  exact ⟨rfl, n, rfl⟩
set_option maxHeartbeats 400000 in
theorem one_walk_03 (F P f p : Nat) (x : Int) (hF : F < 256) (hP : P < 256) (w : World) (hf : f ≤ 5) (hp : p ≤ 3) (hp' : 3 ≤ p) (hb : f % 2 ≤ 0)
    (kf : (F : Int) % 6 = f) (kp : (P : Int) % 4 = p) (kx : bits BinOp.or IntKind.u64 (bits BinOp.or IntKind.u64 ((f : Int) * 2305843009213693952) ((p : Int) * 576460752303423488)) 288230376151711744 = x)
    (h : Hid (Calls Ybad.prog 11 #[.int .u64 x] w fun e w' => e = .returned (.tuple #[.int .i64 f, .int .i64 536870912, .int .i64 0, .int .i64 536870912]) ∧ ∃ n, w' = w.drewN n)) :
    Calls Ybad.prog 6 #[.int .u8 F, .int .u8 P] w fun e w' => e = .returned (.bool true) ∧ ∃ n, w' = w.drewN n := by
  go_enter Ybad.func6, Ybad.ntmps6
  go_wp2_with (go_at_call 11; refine h.out.mono ?_; rintro e w' ⟨rfl, n, rfl⟩)
  go_ret
  exact ⟨rfl, n, rfl⟩
set_option maxHeartbeats 400000 in
theorem one_walk_10 (F P f p : Nat) (x : Int) (hF : F < 256) (hP : P < 256) (w : World) (hf : f ≤ 5) (hp : p ≤ 0) (hb : f % 2 ≤ 1) (hb' : 1 ≤ f % 2)
    (kf : (F : Int) % 6 = f) (kp : (P : Int) % 4 = p) (kx : bits BinOp.or IntKind.u64 (bits BinOp.or IntKind.u64 ((f : Int) * 2305843009213693952) ((p : Int) * 576460752303423488)) 288230376151711744 = x)
    (h : Hid (Calls Ybad.prog 11 #[.int .u64 x] w fun e w' => e = .returned (.tuple #[.int .i64 f, .int .i64 0, .int .i64 0, .int .i64 536870912]) ∧ ∃ n, w' = w.drewN n)) :
    Calls Ybad.prog 6 #[.int .u8 F, .int .u8 P] w fun e w' => e = .returned (.bool true) ∧ ∃ n, w' = w.drewN n := by
  go_enter Ybad.func6, Ybad.ntmps6
  go_wp2_with (go_at_call 11; refine h.out.mono ?_; rintro e w' ⟨rfl, n, rfl⟩)
  go_ret
  exact ⟨rfl, n, rfl⟩
set_option maxHeartbeats 400000 in
theorem one_walk_11 (F P f p : Nat) (x : Int) (hF : F < 256) (hP : P < 256) (w : World) (hf : f ≤ 5) (hp : p ≤ 1) (hp' : 1 ≤ p) (hb : f % 2 ≤ 1) (hb' : 1 ≤ f % 2)
    (kf : (F : Int) % 6 = f) (kp : (P : Int) % 4 = p) (kx : bits BinOp.or IntKind.u64 (bits BinOp.or IntKind.u64 ((f : Int) * 2305843009213693952) ((p : Int) * 576460752303423488)) 288230376151711744 = x)
    (h : Hid (Calls Ybad.prog 11 #[.int .u64 x] w fun e w' => e = .returned (.tuple #[.int .i64 f, .int .i64 536870912, .int .i64 0, .int .i64 536870912]) ∧ ∃ n, w' = w.drewN n)) :
    Calls Ybad.prog 6 #[.int .u8 F, .int .u8 P] w fun e w' => e = .returned (.bool true) ∧ ∃ n, w' = w.drewN n := by
  go_enter Ybad.func6, Ybad.ntmps6
  go_wp2_with (go_at_call 11; refine h.out.mono ?_; rintro e w' ⟨rfl, n, rfl⟩)
  go_ret
  exact ⟨rfl, n, rfl⟩
set_option maxHeartbeats 400000 in
theorem one_walk_12 (F P f p : Nat) (x : Int) (hF : F < 256) (hP : P < 256) (w : World) (hf : f ≤ 5) (hp : p ≤ 2) (hp' : 2 ≤ p) (hb : f % 2 ≤ 1) (hb' : 1 ≤ f % 2)
    (kf : (F : Int) % 6 = f) (kp : (P : Int) % 4 = p) (kx : bits BinOp.or IntKind.u64 (bits BinOp.or IntKind.u64 ((f : Int) * 2305843009213693952) ((p : Int) * 576460752303423488)) 288230376151711744 = x)
    (h : Hid (Calls Ybad.prog 11 #[.int .u64 x] w fun e w' => e = .returned (.tuple #[.int .i64 f, .int .i64 536870912, .int .i64 536870912, .int .i64 536870912]) ∧ ∃ n, w' = w.drewN n)) :
    Calls Ybad.prog 6 #[.int .u8 F, .int .u8 P] w fun e w' => e = .returned (.bool true) ∧ ∃ n, w' = w.drewN n := by
  go_enter Ybad.func6, Ybad.ntmps6
  go_wp2_with (go_at_call 11; refine h.out.mono ?_; rintro e w' ⟨rfl, n, rfl⟩)
  go_ret
  exact ⟨rfl, n, rfl⟩
set_option maxHeartbeats 400000 in
theorem one_walk_13 (F P f p : Nat) (x : Int) (hF : F < 256) (hP : P < 256) (w : World) (hf : f ≤ 5) (hp : p ≤ 3) (hp' : 3 ≤ p) (hb : f % 2 ≤ 1) (hb' : 1 ≤ f % 2)
    (kf : (F : Int) % 6 = f) (kp : (P : Int) % 4 = p) (kx : bits BinOp.or IntKind.u64 (bits BinOp.or IntKind.u64 ((f : Int) * 2305843009213693952) ((p : Int) * 576460752303423488)) 288230376151711744 = x)
    (h : Hid (Calls Ybad.prog 11 #[.int .u64 x] w fun e w' => e = .returned (.tuple #[.int .i64 f, .int .i64 0, .int .i64 536870912, .int .i64 536870912]) ∧ ∃ n, w' = w.drewN n)) :
    Calls Ybad.prog 6 #[.int .u8 F, .int .u8 P] w fun e w' => e = .returned (.bool true) ∧ ∃ n, w' = w.drewN n := by
  go_enter Ybad.func6, Ybad.ntmps6
  go_wp2_with (go_at_call 11; refine h.out.mono ?_; rintro e w' ⟨rfl, n, rfl⟩)
  go_ret
  exact ⟨rfl, n, rfl⟩

theorem one_walk (F P : Nat) (hF : F < 256) (hP : P < 256) (w : World) (hT : Tab w) (h1 : TabIJ w) (h2 : TabOr w) :
    Calls Ybad.prog 6 #[.int .u8 F, .int .u8 P] w fun e w' => e = .returned (.bool true) ∧ ∃ n, w' = w.drewN n := by
  have hf : F % 6 ≤ 5 := by omega
  have hp4 : P % 4 < 4 := by omega
  have kf : (F : Int) % 6 = ((F % 6 : Nat) : Int) := by omega
  have kp : (P : Int) % 4 = ((P % 4 : Nat) : Int) := by omega
  generalize F % 6 = f at *
  generalize P % 4 = p at *
  have kx := one_val f p hf hp4
  have hf2 : f % 2 = 0 ∨ f % 2 = 1 := by omega
  have hpp : p = 0 ∨ p = 1 ∨ p = 2 ∨ p = 3 := by omega
  rcases hf2 with hb | hb <;> rcases hpp with rfl | rfl | rfl | rfl
  · exact one_walk_00 F P f 0 _ hF hP w hf (by omega) (by omega) kf kp kx (one_face _ f 0 0 0 0 hf (by decide) rfl w hT h1 h2 hb (by decide) (by decide))
  · exact one_walk_01 F P f 1 _ hF hP w hf (by omega) (by omega) (by omega) kf kp kx (one_face _ f 1 0 0 536870912 hf (by decide) rfl w hT h1 h2 hb (by decide) (by decide))
  · exact one_walk_02 F P f 2 _ hF hP w hf (by omega) (by omega) (by omega) kf kp kx (one_face _ f 2 0 536870912 536870912 hf (by decide) rfl w hT h1 h2 hb (by decide) (by decide))
  · exact one_walk_03 F P f 3 _ hF hP w hf (by omega) (by omega) (by omega) kf kp kx (one_face _ f 3 0 536870912 0 hf (by decide) rfl w hT h1 h2 hb (by decide) (by decide))
  · exact one_walk_10 F P f 0 _ hF hP w hf (by omega) (by omega) (by omega) kf kp kx (one_face _ f 0 1 0 0 hf (by decide) rfl w hT h1 h2 hb (by decide) (by decide))
  · exact one_walk_11 F P f 1 _ hF hP w hf (by omega) (by omega) (by omega) (by omega) kf kp kx (one_face _ f 1 1 536870912 0 hf (by decide) rfl w hT h1 h2 hb (by decide) (by decide))
  · exact one_walk_12 F P f 2 _ hF hP w hf (by omega) (by omega) (by omega) (by omega) kf kp kx (one_face _ f 2 1 536870912 536870912 hf (by decide) rfl w hT h1 h2 hb (by decide) (by decide))
  · exact one_walk_13 F P f 3 _ hF hP w hf (by omega) (by omega) (by omega) (by omega) kf kp kx (one_face _ f 3 1 0 536870912 hf (by decide) rfl w hT h1 h2 hb (by decide) (by decide))
end Go.Proofs.YbulkeycDoor
