import Derived.Test.YbulkezsWrite
namespace Go.Proofs.Ybulkezs
open Go.RowKit
set_option linter.unusedVariables false

theorem WrAt.below {w w' : World} {bw : Nat} {sv : Value} {acc n : Nat} (h : WrAt w bw sv acc n) (hB : Below w.heap.size w w') : WrAt w' bw sv acc n := (hB.block bw h.lt).trans h
theorem ownsRow_below {w w' : World} {S e size n : Nat} {v : Value} {xs : List Value} (h : w.ownsRow S e size v n xs) (hB : Below w.heap.size w w') : w'.ownsRow S e size v n xs := by
  obtain ⟨hl, h1 | ⟨g, cap, cur, e1, e2, e3, e4⟩⟩ := h
  · exact ⟨hl, .inl h1⟩
  · exact ⟨hl, .inr ⟨g, cap, cur, e1, e2, (hB.block g (Array.getElem?_eq_some_iff.1 e3).1).trans e3, e4⟩⟩
theorem Wr.below {S bw : Nat} {pre : List Nat} {bs : List Bool} {w w' : World} (h : Wr S bw pre bs w) (hB : Below w.heap.size w w') : Wr S bw pre bs w' := by
  obtain ⟨sv, xs, acc, n, hw, hb, ho, hr⟩ := h
  exact ⟨sv, xs, acc, n, hw.below hB, hb, ownsRow_below ho hB, hr⟩

/-- What the writer's method leaves. -/
def Wrote (S bw : Nat) (pre : List Nat) (bs : List Bool) (w : World) (e : Ending) (w' : World) : Prop := e = .returned (.tuple #[]) ∧ Wr S bw pre bs w' ∧ Fr S w w'

set_option maxHeartbeats 2000000 in
theorem id_none (S bw c : Nat) (pre : List Nat) (bs vb b1 b2 : List Bool) (l r : Option Addr) (o : Bool) (l1 r1 : Option Addr) (o1 : Bool) (l2 r2 : Option Addr) (o2 : Bool) (w : World) (hS : S ≤ w.heap.size)
    (hw : Hid (Wr S bw pre bs w)) (hvb : vb.length ≤ 3) (hlim : pre.length + bs.length + vb.length + b1.length + b2.length ≤ 100000)
    (h16 : Hid (∀ w', Below w.heap.size w w' → Calls Yba.prog 16 #[.agg #[.pointer l, .pointer r, .bool o]] w' fun e w'' => e = .returned (.int .u16 c) ∧ Below w'.heap.size w' w''))
    (h18 : Hid (∀ w', Calls Yba.prog 18 #[.int .u16 c] w' fun e w'' => e = .returned (.int .u64 (M.val vb : Nat)) ∧ w'' = w'))
    (h19 : Hid (∀ w', Calls Yba.prog 19 #[.int .u16 c] w' fun e w'' => e = .returned (.int .i64 (vb.length : Nat)) ∧ w'' = w'))
    (h20 : Hid (∀ w', Fr S w w' → Calls Yba.prog 20 #[.agg #[.pointer l, .pointer r, .bool o]] w' fun e w'' => e = .returned (.tuple #[.agg #[.pointer l1, .pointer r1, .bool o1], .agg #[.pointer l2, .pointer r2, .bool o2]]) ∧ Below w'.heap.size w' w''))
    (hl : Hid (∀ w', Calls Yba.prog 21 #[.int .u16 c, .int .u16 512] w' fun e w'' => e = .returned (.bool false) ∧ w'' = w'))
    (hr : Hid (∀ w', Calls Yba.prog 21 #[.int .u16 c, .int .u16 1024] w' fun e w'' => e = .returned (.bool false) ∧ w'' = w'))
    : Calls Yba.prog 12 #[.pointer (some ⟨bw, 0, none⟩), .agg #[.pointer l, .pointer r, .bool o]] w fun e w' => Wrote S bw pre (bs ++ vb) w e w' := by
  have hB1 : Below w.heap.size w (w.alloc (.cells #[.pointer l, .pointer r, .bool o] 36)) := (Below.refl _ _).alloc (Nat.le_refl _) _
  have H16 : Hid (Calls Yba.prog 16 _ _ _) := h16.out _ hB1
  have N1 : Hid (Node (w.alloc (.cells #[.pointer l, .pointer r, .bool o] 36)) w.heap.size l r o) := node_new w l r o
  have W1 : Hid (Wr S bw pre bs (w.alloc (.cells #[.pointer l, .pointer r, .bool o] 36))) := hw.out.below hB1
  have F1 : Hid (Fr S w (w.alloc (.cells #[.pointer l, .pointer r, .bool o] 36))) := Fr.of_below hB1 hS
  clear hB1
  go_enter Yba.func12, Yba.ntmps12
  go_wp2_with fail
  refine H16.out.mono ?_
  rintro e w2 ⟨rfl, hB2⟩
  have N2 : Hid (Node w2 w.heap.size l r o) := Nodes.below hB2 _ _ _ _ (Nat.zero_le _) N1.out
  have W2 : Hid (Wr S bw pre bs w2) := W1.out.below hB2
  have F2 : Hid (Fr S w w2) := F1.out.trans (Fr.of_below hB2 (Nat.le_trans hS F1.out.size))
  clear hB2
  go_wp2_with fail
  refine (h18.out _).mono ?_
  rintro e w2' ⟨rfl, hw2⟩
  subst hw2
  go_wp2_with fail
  refine (h19.out _).mono ?_
  rintro e w2' ⟨rfl, hw2⟩
  subst hw2
  go_wp2_with fail
  refine (write_any S bw pre bs vb w2' hvb (Nat.le_trans hS F2.out.size) W2.out (by omega)).mono ?_
  rintro e w3 ⟨rfl, hW3, hF3⟩
  have N3 := hF3.nodes _ _ _ _ (Nat.zero_le _) N2.out
  obtain ⟨q0, q1, q2, -⟩ := N3.cells
  have W3 : Hid (Wr S bw pre (bs ++ vb) w3) := hW3
  have F3 : Hid (Fr S w w3) := F2.out.trans hF3
  clear hW3 hF3 N3
  go_wp2_with fail
  refine (h20.out w3 F3.out).mono ?_
  rintro e w4 ⟨rfl, hB4⟩
  have hB5 : Below w4.heap.size w4 ((w4.alloc (.cells #[.pointer l1, .pointer r1, .bool o1] 36)).alloc (.cells #[.pointer l2, .pointer r2, .bool o2] 36)) := ((Below.refl _ _).alloc (Nat.le_refl _) _).alloc (by simp) _
  have hB45 := hB4.trans (hB5.mono hB4.size)
  have W5 : Hid (Wr S bw pre (bs ++ vb) ((w4.alloc (.cells #[.pointer l1, .pointer r1, .bool o1] 36)).alloc (.cells #[.pointer l2, .pointer r2, .bool o2] 36))) := W3.out.below hB45
  have F5 : Hid (Fr S w ((w4.alloc (.cells #[.pointer l1, .pointer r1, .bool o1] 36)).alloc (.cells #[.pointer l2, .pointer r2, .bool o2] 36))) := F3.out.trans (Fr.of_below hB45 (Nat.le_trans hS F3.out.size))
  have N5 : Hid (Node ((w4.alloc (.cells #[.pointer l1, .pointer r1, .bool o1] 36)).alloc (.cells #[.pointer l2, .pointer r2, .bool o2] 36)) (w4.heap.size + 1) l2 r2 o2) := by
    have := node_new (w4.alloc (.cells #[.pointer l1, .pointer r1, .bool o1] 36)) l2 r2 o2
    show Node _ _ _ _ _
    simpa using this
  clear hB4 hB5 hB45 q0 q1 q2
  go_wp2_with fail
  refine (hl.out _).mono ?_
  rintro e w5 ⟨rfl, hw5⟩
  subst hw5
  go_wp2_with fail
  refine (hr.out _).mono ?_
  rintro e w7 ⟨rfl, hw7⟩
  subst hw7
  go_wp2_with fail
  go_end0
  exact ⟨rfl, W5.out, F5.out⟩

set_option maxHeartbeats 2000000 in
theorem id_right (S bw c : Nat) (pre : List Nat) (bs vb b1 b2 : List Bool) (l r : Option Addr) (o : Bool) (l1 r1 : Option Addr) (o1 : Bool) (l2 r2 : Option Addr) (o2 : Bool) (w : World) (hS : S ≤ w.heap.size)
    (hw : Hid (Wr S bw pre bs w)) (hvb : vb.length ≤ 3) (hlim : pre.length + bs.length + vb.length + b1.length + b2.length ≤ 100000)
    (h16 : Hid (∀ w', Below w.heap.size w w' → Calls Yba.prog 16 #[.agg #[.pointer l, .pointer r, .bool o]] w' fun e w'' => e = .returned (.int .u16 c) ∧ Below w'.heap.size w' w''))
    (h18 : Hid (∀ w', Calls Yba.prog 18 #[.int .u16 c] w' fun e w'' => e = .returned (.int .u64 (M.val vb : Nat)) ∧ w'' = w'))
    (h19 : Hid (∀ w', Calls Yba.prog 19 #[.int .u16 c] w' fun e w'' => e = .returned (.int .i64 (vb.length : Nat)) ∧ w'' = w'))
    (h20 : Hid (∀ w', Fr S w w' → Calls Yba.prog 20 #[.agg #[.pointer l, .pointer r, .bool o]] w' fun e w'' => e = .returned (.tuple #[.agg #[.pointer l1, .pointer r1, .bool o1], .agg #[.pointer l2, .pointer r2, .bool o2]]) ∧ Below w'.heap.size w' w''))
    (hl : Hid (∀ w', Calls Yba.prog 21 #[.int .u16 c, .int .u16 512] w' fun e w'' => e = .returned (.bool false) ∧ w'' = w'))
    (hr : Hid (∀ w', Calls Yba.prog 21 #[.int .u16 c, .int .u16 1024] w' fun e w'' => e = .returned (.bool true) ∧ w'' = w'))
    (i2 : Hid (∀ w' bs', Fr S w w' → S ≤ w'.heap.size → Wr S bw pre bs' w' → pre.length + bs'.length + b2.length ≤ 100000 → Calls Yba.prog 12 #[.pointer (some ⟨bw, 0, none⟩), .agg #[.pointer l2, .pointer r2, .bool o2]] w' fun e w'' => Wrote S bw pre (bs' ++ b2) w' e w''))
    : Calls Yba.prog 12 #[.pointer (some ⟨bw, 0, none⟩), .agg #[.pointer l, .pointer r, .bool o]] w fun e w' => Wrote S bw pre (bs ++ vb ++ b2) w e w' := by
  have hB1 : Below w.heap.size w (w.alloc (.cells #[.pointer l, .pointer r, .bool o] 36)) := (Below.refl _ _).alloc (Nat.le_refl _) _
  have H16 : Hid (Calls Yba.prog 16 _ _ _) := h16.out _ hB1
  have N1 : Hid (Node (w.alloc (.cells #[.pointer l, .pointer r, .bool o] 36)) w.heap.size l r o) := node_new w l r o
  have W1 : Hid (Wr S bw pre bs (w.alloc (.cells #[.pointer l, .pointer r, .bool o] 36))) := hw.out.below hB1
  have F1 : Hid (Fr S w (w.alloc (.cells #[.pointer l, .pointer r, .bool o] 36))) := Fr.of_below hB1 hS
  clear hB1
  go_enter Yba.func12, Yba.ntmps12
  go_wp2_with fail
  refine H16.out.mono ?_
  rintro e w2 ⟨rfl, hB2⟩
  have N2 : Hid (Node w2 w.heap.size l r o) := Nodes.below hB2 _ _ _ _ (Nat.zero_le _) N1.out
  have W2 : Hid (Wr S bw pre bs w2) := W1.out.below hB2
  have F2 : Hid (Fr S w w2) := F1.out.trans (Fr.of_below hB2 (Nat.le_trans hS F1.out.size))
  clear hB2
  go_wp2_with fail
  refine (h18.out _).mono ?_
  rintro e w2' ⟨rfl, hw2⟩
  subst hw2
  go_wp2_with fail
  refine (h19.out _).mono ?_
  rintro e w2' ⟨rfl, hw2⟩
  subst hw2
  go_wp2_with fail
  refine (write_any S bw pre bs vb w2' hvb (Nat.le_trans hS F2.out.size) W2.out (by omega)).mono ?_
  rintro e w3 ⟨rfl, hW3, hF3⟩
  have N3 := hF3.nodes _ _ _ _ (Nat.zero_le _) N2.out
  obtain ⟨q0, q1, q2, -⟩ := N3.cells
  have W3 : Hid (Wr S bw pre (bs ++ vb) w3) := hW3
  have F3 : Hid (Fr S w w3) := F2.out.trans hF3
  clear hW3 hF3 N3
  go_wp2_with fail
  refine (h20.out w3 F3.out).mono ?_
  rintro e w4 ⟨rfl, hB4⟩
  have hB5 : Below w4.heap.size w4 ((w4.alloc (.cells #[.pointer l1, .pointer r1, .bool o1] 36)).alloc (.cells #[.pointer l2, .pointer r2, .bool o2] 36)) := ((Below.refl _ _).alloc (Nat.le_refl _) _).alloc (by simp) _
  have hB45 := hB4.trans (hB5.mono hB4.size)
  have W5 : Hid (Wr S bw pre (bs ++ vb) ((w4.alloc (.cells #[.pointer l1, .pointer r1, .bool o1] 36)).alloc (.cells #[.pointer l2, .pointer r2, .bool o2] 36))) := W3.out.below hB45
  have F5 : Hid (Fr S w ((w4.alloc (.cells #[.pointer l1, .pointer r1, .bool o1] 36)).alloc (.cells #[.pointer l2, .pointer r2, .bool o2] 36))) := F3.out.trans (Fr.of_below hB45 (Nat.le_trans hS F3.out.size))
  have N5 : Hid (Node ((w4.alloc (.cells #[.pointer l1, .pointer r1, .bool o1] 36)).alloc (.cells #[.pointer l2, .pointer r2, .bool o2] 36)) (w4.heap.size + 1) l2 r2 o2) := by
    have := node_new (w4.alloc (.cells #[.pointer l1, .pointer r1, .bool o1] 36)) l2 r2 o2
    show Node _ _ _ _ _
    simpa using this
  clear hB4 hB5 hB45 q0 q1 q2
  go_wp2_with fail
  refine (hl.out _).mono ?_
  rintro e w5 ⟨rfl, hw5⟩
  subst hw5
  go_wp2_with fail
  refine (hr.out _).mono ?_
  rintro e w7 ⟨rfl, hw7⟩
  subst hw7
  go_wp2_with fail
  refine (i2.out _ (bs ++ vb) F5.out (Nat.le_trans hS F5.out.size) W5.out (by simp; omega)).mono ?_
  rintro e w8 ⟨rfl, hW8, hF8⟩
  go_wp2_with fail
  go_end0
  exact ⟨rfl, hW8, F5.out.trans hF8⟩

set_option maxHeartbeats 2000000 in
theorem id_left (S bw c : Nat) (pre : List Nat) (bs vb b1 b2 : List Bool) (l r : Option Addr) (o : Bool) (l1 r1 : Option Addr) (o1 : Bool) (l2 r2 : Option Addr) (o2 : Bool) (w : World) (hS : S ≤ w.heap.size)
    (hw : Hid (Wr S bw pre bs w)) (hvb : vb.length ≤ 3) (hlim : pre.length + bs.length + vb.length + b1.length + b2.length ≤ 100000)
    (h16 : Hid (∀ w', Below w.heap.size w w' → Calls Yba.prog 16 #[.agg #[.pointer l, .pointer r, .bool o]] w' fun e w'' => e = .returned (.int .u16 c) ∧ Below w'.heap.size w' w''))
    (h18 : Hid (∀ w', Calls Yba.prog 18 #[.int .u16 c] w' fun e w'' => e = .returned (.int .u64 (M.val vb : Nat)) ∧ w'' = w'))
    (h19 : Hid (∀ w', Calls Yba.prog 19 #[.int .u16 c] w' fun e w'' => e = .returned (.int .i64 (vb.length : Nat)) ∧ w'' = w'))
    (h20 : Hid (∀ w', Fr S w w' → Calls Yba.prog 20 #[.agg #[.pointer l, .pointer r, .bool o]] w' fun e w'' => e = .returned (.tuple #[.agg #[.pointer l1, .pointer r1, .bool o1], .agg #[.pointer l2, .pointer r2, .bool o2]]) ∧ Below w'.heap.size w' w''))
    (hl : Hid (∀ w', Calls Yba.prog 21 #[.int .u16 c, .int .u16 512] w' fun e w'' => e = .returned (.bool true) ∧ w'' = w'))
    (hr : Hid (∀ w', Calls Yba.prog 21 #[.int .u16 c, .int .u16 1024] w' fun e w'' => e = .returned (.bool false) ∧ w'' = w'))
    (i1 : Hid (∀ w' bs', Fr S w w' → S ≤ w'.heap.size → Wr S bw pre bs' w' → pre.length + bs'.length + b1.length ≤ 100000 → Calls Yba.prog 12 #[.pointer (some ⟨bw, 0, none⟩), .agg #[.pointer l1, .pointer r1, .bool o1]] w' fun e w'' => Wrote S bw pre (bs' ++ b1) w' e w''))
    : Calls Yba.prog 12 #[.pointer (some ⟨bw, 0, none⟩), .agg #[.pointer l, .pointer r, .bool o]] w fun e w' => Wrote S bw pre (bs ++ vb ++ b1) w e w' := by
  have hB1 : Below w.heap.size w (w.alloc (.cells #[.pointer l, .pointer r, .bool o] 36)) := (Below.refl _ _).alloc (Nat.le_refl _) _
  have H16 : Hid (Calls Yba.prog 16 _ _ _) := h16.out _ hB1
  have N1 : Hid (Node (w.alloc (.cells #[.pointer l, .pointer r, .bool o] 36)) w.heap.size l r o) := node_new w l r o
  have W1 : Hid (Wr S bw pre bs (w.alloc (.cells #[.pointer l, .pointer r, .bool o] 36))) := hw.out.below hB1
  have F1 : Hid (Fr S w (w.alloc (.cells #[.pointer l, .pointer r, .bool o] 36))) := Fr.of_below hB1 hS
  clear hB1
  go_enter Yba.func12, Yba.ntmps12
  go_wp2_with fail
  refine H16.out.mono ?_
  rintro e w2 ⟨rfl, hB2⟩
  have N2 : Hid (Node w2 w.heap.size l r o) := Nodes.below hB2 _ _ _ _ (Nat.zero_le _) N1.out
  have W2 : Hid (Wr S bw pre bs w2) := W1.out.below hB2
  have F2 : Hid (Fr S w w2) := F1.out.trans (Fr.of_below hB2 (Nat.le_trans hS F1.out.size))
  clear hB2
  go_wp2_with fail
  refine (h18.out _).mono ?_
  rintro e w2' ⟨rfl, hw2⟩
  subst hw2
  go_wp2_with fail
  refine (h19.out _).mono ?_
  rintro e w2' ⟨rfl, hw2⟩
  subst hw2
  go_wp2_with fail
  refine (write_any S bw pre bs vb w2' hvb (Nat.le_trans hS F2.out.size) W2.out (by omega)).mono ?_
  rintro e w3 ⟨rfl, hW3, hF3⟩
  have N3 := hF3.nodes _ _ _ _ (Nat.zero_le _) N2.out
  obtain ⟨q0, q1, q2, -⟩ := N3.cells
  have W3 : Hid (Wr S bw pre (bs ++ vb) w3) := hW3
  have F3 : Hid (Fr S w w3) := F2.out.trans hF3
  clear hW3 hF3 N3
  go_wp2_with fail
  refine (h20.out w3 F3.out).mono ?_
  rintro e w4 ⟨rfl, hB4⟩
  have hB5 : Below w4.heap.size w4 ((w4.alloc (.cells #[.pointer l1, .pointer r1, .bool o1] 36)).alloc (.cells #[.pointer l2, .pointer r2, .bool o2] 36)) := ((Below.refl _ _).alloc (Nat.le_refl _) _).alloc (by simp) _
  have hB45 := hB4.trans (hB5.mono hB4.size)
  have W5 : Hid (Wr S bw pre (bs ++ vb) ((w4.alloc (.cells #[.pointer l1, .pointer r1, .bool o1] 36)).alloc (.cells #[.pointer l2, .pointer r2, .bool o2] 36))) := W3.out.below hB45
  have F5 : Hid (Fr S w ((w4.alloc (.cells #[.pointer l1, .pointer r1, .bool o1] 36)).alloc (.cells #[.pointer l2, .pointer r2, .bool o2] 36))) := F3.out.trans (Fr.of_below hB45 (Nat.le_trans hS F3.out.size))
  have N5 : Hid (Node ((w4.alloc (.cells #[.pointer l1, .pointer r1, .bool o1] 36)).alloc (.cells #[.pointer l2, .pointer r2, .bool o2] 36)) (w4.heap.size + 1) l2 r2 o2) := by
    have := node_new (w4.alloc (.cells #[.pointer l1, .pointer r1, .bool o1] 36)) l2 r2 o2
    show Node _ _ _ _ _
    simpa using this
  clear hB4 hB5 hB45 q0 q1 q2
  go_wp2_with fail
  refine (hl.out _).mono ?_
  rintro e w5 ⟨rfl, hw5⟩
  subst hw5
  go_wp2_with fail
  refine (i1.out _ (bs ++ vb) F5.out (Nat.le_trans hS F5.out.size) W5.out (by simp; omega)).mono ?_
  rintro e w6 ⟨rfl, hW6, hF6⟩
  have N6 := hF6.nodes _ _ _ _ (Nat.zero_le _) N5.out
  obtain ⟨q0, q1, q2, -⟩ := N6.cells
  have W6 : Hid (Wr S bw pre (bs ++ vb ++ b1) w6) := hW6
  have F6 : Hid (Fr S w w6) := F5.out.trans hF6
  clear hW6 hF6 N6
  go_wp2_with fail
  refine (hr.out _).mono ?_
  rintro e w7 ⟨rfl, hw7⟩
  subst hw7
  go_wp2_with fail
  go_end0
  exact ⟨rfl, W6.out, F6.out⟩

set_option maxHeartbeats 2000000 in
theorem id_both (S bw c : Nat) (pre : List Nat) (bs vb b1 b2 : List Bool) (l r : Option Addr) (o : Bool) (l1 r1 : Option Addr) (o1 : Bool) (l2 r2 : Option Addr) (o2 : Bool) (w : World) (hS : S ≤ w.heap.size)
    (hw : Hid (Wr S bw pre bs w)) (hvb : vb.length ≤ 3) (hlim : pre.length + bs.length + vb.length + b1.length + b2.length ≤ 100000)
    (h16 : Hid (∀ w', Below w.heap.size w w' → Calls Yba.prog 16 #[.agg #[.pointer l, .pointer r, .bool o]] w' fun e w'' => e = .returned (.int .u16 c) ∧ Below w'.heap.size w' w''))
    (h18 : Hid (∀ w', Calls Yba.prog 18 #[.int .u16 c] w' fun e w'' => e = .returned (.int .u64 (M.val vb : Nat)) ∧ w'' = w'))
    (h19 : Hid (∀ w', Calls Yba.prog 19 #[.int .u16 c] w' fun e w'' => e = .returned (.int .i64 (vb.length : Nat)) ∧ w'' = w'))
    (h20 : Hid (∀ w', Fr S w w' → Calls Yba.prog 20 #[.agg #[.pointer l, .pointer r, .bool o]] w' fun e w'' => e = .returned (.tuple #[.agg #[.pointer l1, .pointer r1, .bool o1], .agg #[.pointer l2, .pointer r2, .bool o2]]) ∧ Below w'.heap.size w' w''))
    (hl : Hid (∀ w', Calls Yba.prog 21 #[.int .u16 c, .int .u16 512] w' fun e w'' => e = .returned (.bool true) ∧ w'' = w'))
    (hr : Hid (∀ w', Calls Yba.prog 21 #[.int .u16 c, .int .u16 1024] w' fun e w'' => e = .returned (.bool true) ∧ w'' = w'))
    (i1 : Hid (∀ w' bs', Fr S w w' → S ≤ w'.heap.size → Wr S bw pre bs' w' → pre.length + bs'.length + b1.length ≤ 100000 → Calls Yba.prog 12 #[.pointer (some ⟨bw, 0, none⟩), .agg #[.pointer l1, .pointer r1, .bool o1]] w' fun e w'' => Wrote S bw pre (bs' ++ b1) w' e w''))
    (i2 : Hid (∀ w' bs', Fr S w w' → S ≤ w'.heap.size → Wr S bw pre bs' w' → pre.length + bs'.length + b2.length ≤ 100000 → Calls Yba.prog 12 #[.pointer (some ⟨bw, 0, none⟩), .agg #[.pointer l2, .pointer r2, .bool o2]] w' fun e w'' => Wrote S bw pre (bs' ++ b2) w' e w''))
    : Calls Yba.prog 12 #[.pointer (some ⟨bw, 0, none⟩), .agg #[.pointer l, .pointer r, .bool o]] w fun e w' => Wrote S bw pre (bs ++ vb ++ b1 ++ b2) w e w' := by
  have hB1 : Below w.heap.size w (w.alloc (.cells #[.pointer l, .pointer r, .bool o] 36)) := (Below.refl _ _).alloc (Nat.le_refl _) _
  have H16 : Hid (Calls Yba.prog 16 _ _ _) := h16.out _ hB1
  have N1 : Hid (Node (w.alloc (.cells #[.pointer l, .pointer r, .bool o] 36)) w.heap.size l r o) := node_new w l r o
  have W1 : Hid (Wr S bw pre bs (w.alloc (.cells #[.pointer l, .pointer r, .bool o] 36))) := hw.out.below hB1
  have F1 : Hid (Fr S w (w.alloc (.cells #[.pointer l, .pointer r, .bool o] 36))) := Fr.of_below hB1 hS
  clear hB1
  go_enter Yba.func12, Yba.ntmps12
  go_wp2_with fail
  refine H16.out.mono ?_
  rintro e w2 ⟨rfl, hB2⟩
  have N2 : Hid (Node w2 w.heap.size l r o) := Nodes.below hB2 _ _ _ _ (Nat.zero_le _) N1.out
  have W2 : Hid (Wr S bw pre bs w2) := W1.out.below hB2
  have F2 : Hid (Fr S w w2) := F1.out.trans (Fr.of_below hB2 (Nat.le_trans hS F1.out.size))
  clear hB2
  go_wp2_with fail
  refine (h18.out _).mono ?_
  rintro e w2' ⟨rfl, hw2⟩
  subst hw2
  go_wp2_with fail
  refine (h19.out _).mono ?_
  rintro e w2' ⟨rfl, hw2⟩
  subst hw2
  go_wp2_with fail
  refine (write_any S bw pre bs vb w2' hvb (Nat.le_trans hS F2.out.size) W2.out (by omega)).mono ?_
  rintro e w3 ⟨rfl, hW3, hF3⟩
  have N3 := hF3.nodes _ _ _ _ (Nat.zero_le _) N2.out
  obtain ⟨q0, q1, q2, -⟩ := N3.cells
  have W3 : Hid (Wr S bw pre (bs ++ vb) w3) := hW3
  have F3 : Hid (Fr S w w3) := F2.out.trans hF3
  clear hW3 hF3 N3
  go_wp2_with fail
  refine (h20.out w3 F3.out).mono ?_
  rintro e w4 ⟨rfl, hB4⟩
  have hB5 : Below w4.heap.size w4 ((w4.alloc (.cells #[.pointer l1, .pointer r1, .bool o1] 36)).alloc (.cells #[.pointer l2, .pointer r2, .bool o2] 36)) := ((Below.refl _ _).alloc (Nat.le_refl _) _).alloc (by simp) _
  have hB45 := hB4.trans (hB5.mono hB4.size)
  have W5 : Hid (Wr S bw pre (bs ++ vb) ((w4.alloc (.cells #[.pointer l1, .pointer r1, .bool o1] 36)).alloc (.cells #[.pointer l2, .pointer r2, .bool o2] 36))) := W3.out.below hB45
  have F5 : Hid (Fr S w ((w4.alloc (.cells #[.pointer l1, .pointer r1, .bool o1] 36)).alloc (.cells #[.pointer l2, .pointer r2, .bool o2] 36))) := F3.out.trans (Fr.of_below hB45 (Nat.le_trans hS F3.out.size))
  have N5 : Hid (Node ((w4.alloc (.cells #[.pointer l1, .pointer r1, .bool o1] 36)).alloc (.cells #[.pointer l2, .pointer r2, .bool o2] 36)) (w4.heap.size + 1) l2 r2 o2) := by
    have := node_new (w4.alloc (.cells #[.pointer l1, .pointer r1, .bool o1] 36)) l2 r2 o2
    show Node _ _ _ _ _
    simpa using this
  clear hB4 hB5 hB45 q0 q1 q2
  go_wp2_with fail
  refine (hl.out _).mono ?_
  rintro e w5 ⟨rfl, hw5⟩
  subst hw5
  go_wp2_with fail
  refine (i1.out _ (bs ++ vb) F5.out (Nat.le_trans hS F5.out.size) W5.out (by simp; omega)).mono ?_
  rintro e w6 ⟨rfl, hW6, hF6⟩
  have N6 := hF6.nodes _ _ _ _ (Nat.zero_le _) N5.out
  obtain ⟨q0, q1, q2, -⟩ := N6.cells
  have W6 : Hid (Wr S bw pre (bs ++ vb ++ b1) w6) := hW6
  have F6 : Hid (Fr S w w6) := F5.out.trans hF6
  clear hW6 hF6 N6
  go_wp2_with fail
  refine (hr.out _).mono ?_
  rintro e w7 ⟨rfl, hw7⟩
  subst hw7
  go_wp2_with fail
  refine (i2.out _ (bs ++ vb ++ b1) F6.out (Nat.le_trans hS F6.out.size) W6.out (by simp; omega)).mono ?_
  rintro e w8 ⟨rfl, hW8, hF8⟩
  go_wp2_with fail
  go_end0
  exact ⟨rfl, hW8, F6.out.trans hF8⟩

/-- (*bitWriter).id: the writer holds, behind what it held, the id's code bits. -/
theorem id_any (S bw : Nat) (pre : List Nat) : ∀ (d : Nat) (l r : Option Addr) (o : Bool) (eb bs : List Bool) (w : World), Enc 0 d w l r o eb → S ≤ w.heap.size → Wr S bw pre bs w → pre.length + bs.length + eb.length ≤ 100000 →
    Calls Yba.prog 12 #[.pointer (some ⟨bw, 0, none⟩), .agg #[.pointer l, .pointer r, .bool o]] w fun e w' => Wrote S bw pre (bs ++ eb) w e w'
  | 0, l, r, o, eb, bs, w, h, _, _, _ => h.elim
  | d + 1, l, r, o, eb, bs, w, h, hS, hw, hlim => by
    rcases h with ⟨rfl, rfl⟩ | ⟨g, h', l1, r1, o1, l2, r2, o2, b1, b2, rfl, rfl, _, n1, n2, c1, c2, rfl⟩
    · -- a leaf
      have hcode : (if o then 11 else 3 : Nat) = 3 ∧ M.val [false, false, o] = 0 ∨ (if o then 11 else 3 : Nat) = 11 ∧ M.val [false, false, o] = 1 := by cases o <;> simp [M.val]
      refine id_none S bw (if o then 11 else 3) pre bs [false, false, o] [] [] none r o none r o none r o w hS hw (by simp) (by simpa using hlim) ?_ ?_ ?_ ?_ ?_ ?_
      · intro w' _
        exact code_leaf r o w'
      · intro w'
        exact bits_any _ _ (by omega) w'
      · intro w'
        exact len_any _ 3 (by omega) w'
      · intro w' _
        exact halves_leaf r o w'
      · intro w'
        exact left_any _ false (by rcases hcode with h | h <;> simp [h.1]) w'
      · intro w'
        exact right_any _ false (by rcases hcode with h | h <;> simp [h.1]) w'
    · have hn : ∀ w', Fr S w w' → Node w' g l1 r1 o1 ∧ Node w' h' l2 r2 o2 := fun w' hf => ⟨hf.nodes _ _ _ _ (Nat.zero_le _) n1, hf.nodes _ _ _ _ (Nat.zero_le _) n2⟩
      have h16 : ∀ w', Below w.heap.size w w' → Calls Yba.prog 16 #[.agg #[.pointer (some ⟨g, 0, none⟩), .pointer (some ⟨h', 0, none⟩), .bool o]] w' fun e w'' => e = .returned (.int .u16 (pairB (zeroB l1 o1) (zeroB l2 o2) : Nat)) ∧ Below w'.heap.size w' w'' := fun w' hB =>
        code_pair g h' o l1 r1 o1 l2 r2 o2 w' (Nodes.below hB _ _ _ _ (Nat.zero_le _) n1) (Nodes.below hB _ _ _ _ (Nat.zero_le _) n2)
      have h20 : ∀ w', Fr S w w' → Calls Yba.prog 20 #[.agg #[.pointer (some ⟨g, 0, none⟩), .pointer (some ⟨h', 0, none⟩), .bool o]] w' fun e w'' => e = .returned (.tuple #[.agg #[.pointer l1, .pointer r1, .bool o1], .agg #[.pointer l2, .pointer r2, .bool o2]]) ∧ Below w'.heap.size w' w'' := fun w' hf =>
        halves_pair g h' o l1 r1 o1 l2 r2 o2 w' (hn w' hf).1 (hn w' hf).2
      have i1 : ∀ w' bs', Fr S w w' → S ≤ w'.heap.size → Wr S bw pre bs' w' → pre.length + bs'.length + b1.length ≤ 100000 → Calls Yba.prog 12 #[.pointer (some ⟨bw, 0, none⟩), .agg #[.pointer l1, .pointer r1, .bool o1]] w' fun e w'' => Wrote S bw pre (bs' ++ b1) w' e w'' := fun w' bs' hf hS' hw' hl' =>
        id_any S bw pre d l1 r1 o1 b1 bs' w' (c1.mono hf.nodes) hS' hw' hl'
      have i2 : ∀ w' bs', Fr S w w' → S ≤ w'.heap.size → Wr S bw pre bs' w' → pre.length + bs'.length + b2.length ≤ 100000 → Calls Yba.prog 12 #[.pointer (some ⟨bw, 0, none⟩), .agg #[.pointer l2, .pointer r2, .bool o2]] w' fun e w'' => Wrote S bw pre (bs' ++ b2) w' e w'' := fun w' bs' hf hS' hw' hl' =>
        id_any S bw pre d l2 r2 o2 b2 bs' w' (c2.mono hf.nodes) hS' hw' hl'
      by_cases hz1 : zeroB l1 o1 = true
      · rw [if_pos hz1] at hlim ⊢
        rw [hz1] at h16
        rw [← List.append_assoc]
        exact id_right S bw 1034 pre bs [false, true] [] b2 _ _ o l1 r1 o1 l2 r2 o2 w hS hw (by simp) (by simp at hlim ⊢; omega) h16 (fun w' => bits_any _ _ (by simp [M.val]) w') (fun w' => len_any _ 2 (by simp) w') h20 (fun w' => left_any _ false (by simp) w') (fun w' => right_any _ true (by simp) w') i2
      · rw [if_neg hz1] at hlim ⊢
        have hz1' : zeroB l1 o1 = false := Bool.eq_false_iff.2 hz1
        by_cases hz2 : zeroB l2 o2 = true
        · rw [if_pos hz2] at hlim ⊢
          rw [hz1', hz2] at h16
          rw [← List.append_assoc]
          exact id_left S bw 530 pre bs [true, false] b1 [] _ _ o l1 r1 o1 l2 r2 o2 w hS hw (by simp) (by simp at hlim ⊢; omega) h16 (fun w' => bits_any _ _ (by simp [M.val]) w') (fun w' => len_any _ 2 (by simp) w') h20 (fun w' => left_any _ true (by simp) w') (fun w' => right_any _ false (by simp) w') i1
        · rw [if_neg hz2] at hlim ⊢
          have hz2' : zeroB l2 o2 = false := Bool.eq_false_iff.2 hz2
          rw [hz1', hz2'] at h16
          rw [← List.append_assoc, ← List.append_assoc]
          exact id_both S bw 1562 pre bs [true, true] b1 b2 _ _ o l1 r1 o1 l2 r2 o2 w hS hw (by simp) (by simp at hlim ⊢; omega) h16 (fun w' => bits_any _ _ (by simp [M.val]) w') (fun w' => len_any _ 2 (by simp) w') h20 (fun w' => left_any _ true (by simp) w') (fun w' => right_any _ true (by simp) w') i1 i2
end Go.Proofs.Ybulkezs
