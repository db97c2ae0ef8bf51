import Derived.Test.YbulkezsBytes
namespace Go.Proofs.Ybulkezs
open Go.RowKit
set_option linter.unusedVariables false

theorem info4 : (Yba.prog.info? 4).map (fun i => (i.zero, i.size, i.bytes)) = some (some (.bool false), 1, 1) := by kernel_rfl

/-- Bits as cells. -/
def boolCells (xs : List Bool) : List Value := xs.map Value.bool
theorem boolCells_append (a b : List Bool) : boolCells (a ++ b) = boolCells a ++ boolCells b := List.map_append

theorem grown_fr4 {w w' : World} {S n : Nat} {sv : Value} {xs : List Value} (hS : S ≤ w.heap.size) (ho : w.ownsRow S 4 1 sv n xs) (hg : w.grownBy w' sv.ownBlock) : Fr S w w' := by
  have hne : ∀ k, some k = sv.ownBlock → S ≤ k ∧ ∃ c, w.heap[k]? = some (.cells c 4 (0, 0)) := by
    intro k e
    obtain ⟨_, ⟨rfl, _⟩ | ⟨g', cap, cur, rfl, hb, e3, _⟩⟩ := ho
    · simp [Value.ownBlock] at e
    · simp only [Value.ownBlock, Option.some.injEq] at e
      subst e
      exact ⟨hb, cur, e3⟩
  refine ⟨⟨hg.os, hg.tape, hg.output, hg.size, fun k hk => hg.block k (by omega) (fun e => by have := (hne k e).1; omega)⟩, fun g l r o _ hn => (hg.block g hn.lt (fun e => ?_)).trans hn⟩
  obtain ⟨c, hc⟩ := (hne g e).2
  unfold Node at hn
  rw [hc] at hn
  simp at hn

set_option maxHeartbeats 1000000 in
theorem enc_leaf_false (S : Nat) (r : Option Addr) (v : Value) (xs : List Bool) (w : World) (hS : S ≤ w.heap.size) (hown : w.ownsRow S 4 1 v xs.length (boolCells xs)) (hlim : xs.length + 3 ≤ 100000) :
    Calls Yba.prog 14 #[.agg #[.pointer none, .pointer r, .bool false], v] w fun e w' => ∃ v', e = .returned v' ∧ w'.ownsRow S 4 1 v' (xs.length + 3) (boolCells xs ++ [.bool false, .bool false, .bool false]) ∧ Fr S w w' := by
  obtain ⟨i0, hi, hz0, hz1, hz2⟩ := info_parts info4
  go_enter Yba.func14, Yba.ntmps14
  go_wp2_with (at_builtin; refine wpList_append_own _ rfl _ _ 43 rfl S 4 i0 (.bool false) 1 1 Yba.underlying43 hi hz0 hz1 hz2 rfl (by decide) _ _ _ rfl ((hown.alloc _).alloc _) _ 3 3 [.bool false, .bool false, .bool false] rfl rfl ?c1 ?c2 ?c3 ?c4 ?c5 ?_)
  case c1 =>
    intro j u hj
    match j, hj with
    | 0, hj => simp at hj; subst hj; simp [Addr.add]
    | 1, hj => simp at hj; subst hj; simp [Addr.add]
    | 2, hj => simp at hj; subst hj; simp [Addr.add]
  case c2 => intro u hu; simp at hu; subst hu; rfl
  case c3 => unfold maxLen; omega
  case c4 => omega
  case c5 => simp; omega
  intro v' w2 hown' hgrow _
  go_wp2
  go_ret
  exact ⟨v', rfl, hown', grown_fr4 hS hown (grown_alloc2 hgrow)⟩

set_option maxHeartbeats 1000000 in
theorem enc_leaf_true (S : Nat) (r : Option Addr) (v : Value) (xs : List Bool) (w : World) (hS : S ≤ w.heap.size) (hown : w.ownsRow S 4 1 v xs.length (boolCells xs)) (hlim : xs.length + 3 ≤ 100000) :
    Calls Yba.prog 14 #[.agg #[.pointer none, .pointer r, .bool true], v] w fun e w' => ∃ v', e = .returned v' ∧ w'.ownsRow S 4 1 v' (xs.length + 3) (boolCells xs ++ [.bool false, .bool false, .bool true]) ∧ Fr S w w' := by
  obtain ⟨i0, hi, hz0, hz1, hz2⟩ := info_parts info4
  go_enter Yba.func14, Yba.ntmps14
  go_wp2_with (at_builtin; refine wpList_append_own _ rfl _ _ 43 rfl S 4 i0 (.bool false) 1 1 Yba.underlying43 hi hz0 hz1 hz2 rfl (by decide) _ _ _ rfl ((hown.alloc _).alloc _) _ 3 3 [.bool false, .bool false, .bool true] rfl rfl ?c1 ?c2 ?c3 ?c4 ?c5 ?_)
  case c1 =>
    intro j u hj
    match j, hj with
    | 0, hj => simp at hj; subst hj; simp [Addr.add]
    | 1, hj => simp at hj; subst hj; simp [Addr.add]
    | 2, hj => simp at hj; subst hj; simp [Addr.add]
  case c2 => intro u hu; simp at hu; rcases hu with rfl | rfl <;> rfl
  case c3 => unfold maxLen; omega
  case c4 => omega
  case c5 => simp; omega
  intro v' w2 hown' hgrow _
  go_wp2
  go_ret
  exact ⟨v', rfl, hown', grown_fr4 hS hown (grown_alloc2 hgrow)⟩

/-- What 'enc' leaves. -/
def Encd (S : Nat) (xs : List Bool) (w : World) (e : Ending) (w' : World) : Prop := ∃ v', e = .returned v' ∧ w'.ownsRow S 4 1 v' xs.length (boolCells xs) ∧ Fr S w w'

set_option maxHeartbeats 2000000 in
theorem enc_right (S : Nat) (g h : Nat) (o : Bool) (l1 r1 : Option Addr) (o1 : Bool) (l2 r2 : Option Addr) (o2 : Bool) (v : Value) (xs b1 b2 : List Bool) (w : World) (hS : S ≤ w.heap.size) (n1 : Hid (Node w g l1 r1 o1)) (n2 : Hid (Node w h l2 r2 o2))
    (hown : w.ownsRow S 4 1 v xs.length (boolCells xs)) (hlim : xs.length + 2 + b1.length + b2.length ≤ 100000)
    (z1 : Hid (∀ w', Node w' g l1 r1 o1 → Calls Yba.prog 23 #[.pointer (some ⟨g, 0, none⟩)] w' fun e w'' => e = .returned (.bool true) ∧ w'' = w'))
    (i2 : Hid (∀ w' xs' v', Fr S w w' → S ≤ w'.heap.size → w'.ownsRow S 4 1 v' xs'.length (boolCells xs') → xs'.length + b2.length ≤ 100000 → Calls Yba.prog 14 #[.agg #[.pointer l2, .pointer r2, .bool o2], v'] w' fun e w'' => Encd S (xs' ++ b2) w' e w''))
    : Calls Yba.prog 14 #[.agg #[.pointer (some ⟨g, 0, none⟩), .pointer (some ⟨h, 0, none⟩), .bool o], v] w fun e w' => Encd S (xs ++ [false, true] ++ b2) w e w' := by
  obtain ⟨i0, hi, hz0, hz1, hz2⟩ := info_parts info4
  have hB1 : Below w.heap.size w (w.alloc (.cells #[.pointer (some ⟨g, 0, none⟩), .pointer (some ⟨h, 0, none⟩), .bool o] 36)) := (Below.refl _ _).alloc (Nat.le_refl _) _
  have Z1 : Hid (Calls Yba.prog 23 _ _ _) := z1.out _ (Nodes.below hB1 _ _ _ _ (Nat.zero_le _) n1.out)
  have F2 : Hid (∀ O, Fr S w ((w.alloc (.cells #[.pointer (some ⟨g, 0, none⟩), .pointer (some ⟨h, 0, none⟩), .bool o] 36)).alloc O)) := fun O => Fr.of_below (((Below.refl _ _).alloc (Nat.le_refl _) _).alloc (by simp) _) hS
  have N2 : Hid (∀ O, Node ((w.alloc (.cells #[.pointer (some ⟨g, 0, none⟩), .pointer (some ⟨h, 0, none⟩), .bool o] 36)).alloc O) w.heap.size (some ⟨g, 0, none⟩) (some ⟨h, 0, none⟩) o) := fun O => Nodes.below ((Below.refl _ _).alloc (Nat.le_refl _) _) _ _ _ _ (Nat.zero_le _) (node_new w _ _ o)
  clear hB1
  go_enter Yba.func14, Yba.ntmps14
  go_wp2_with fail
  refine Z1.out.mono ?_
  rintro e w1 ⟨rfl, hw1⟩
  subst hw1
  go_wp2_with (at_builtin; refine wpList_append_own _ rfl _ _ 43 rfl S 4 i0 (.bool false) 1 1 Yba.underlying43 hi hz0 hz1 hz2 rfl (by decide) _ _ _ rfl ((hown.alloc _).alloc _) _ 2 2 [.bool false, .bool true] rfl rfl ?c1 ?c2 ?c3 ?c4 ?c5 ?_)
  case c1 =>
    intro j u hj
    match j, hj with
    | 0, hj => simp at hj; subst hj; simp [Addr.add]
    | 1, hj => simp at hj; subst hj; simp [Addr.add]
  case c2 => intro u hu; simp at hu; rcases hu with rfl | rfl <;> rfl
  case c3 => unfold maxLen; omega
  case c4 => omega
  case c5 => simp; omega
  intro v1 w2 hown' hgrow _
  have hF := grown_fr4 (by simp; omega) ((hown.alloc _).alloc _) hgrow
  have F3 : Hid (Fr S w w2) := (F2.out _).trans hF
  have N3 := hF.nodes _ _ _ _ (Nat.zero_le _) (N2.out _)
  have O3 : Hid (w2.ownsRow S 4 1 v1 (xs ++ [false, true]).length (boolCells (xs ++ [false, true]))) := by
    show World.ownsRow _ _ _ _ _ _ _
    rw [boolCells_append, List.length_append]; exact hown'
  have NH := F3.out.nodes _ _ _ _ (Nat.zero_le _) n2.out
  have NG := F3.out.nodes _ _ _ _ (Nat.zero_le _) n1.out
  obtain ⟨p0, p1, p2, -⟩ := N3.cells
  have N3h : Hid (Node w2 w.heap.size (some ⟨g, 0, none⟩) (some ⟨h, 0, none⟩) o) := N3
  obtain ⟨q0, q1, q2, -⟩ := NH.cells
  obtain ⟨s0, s1, s2, -⟩ := NG.cells
  clear hF N3 NH NG hown' hgrow hown
  go_wp2_with fail
  refine (i2.out w2 (xs ++ [false, true]) v1 F3.out (Nat.le_trans hS F3.out.size) O3.out (by simp; omega)).mono ?_
  rintro e w3 ⟨v2, rfl, ho3, hF3⟩
  go_wp2_with fail
  go_ret
  exact ⟨v2, rfl, ho3, F3.out.trans hF3⟩

set_option maxHeartbeats 2000000 in
theorem enc_left (S : Nat) (g h : Nat) (o : Bool) (l1 r1 : Option Addr) (o1 : Bool) (l2 r2 : Option Addr) (o2 : Bool) (v : Value) (xs b1 b2 : List Bool) (w : World) (hS : S ≤ w.heap.size) (n1 : Hid (Node w g l1 r1 o1)) (n2 : Hid (Node w h l2 r2 o2))
    (hown : w.ownsRow S 4 1 v xs.length (boolCells xs)) (hlim : xs.length + 2 + b1.length + b2.length ≤ 100000)
    (z1 : Hid (∀ w', Node w' g l1 r1 o1 → Calls Yba.prog 23 #[.pointer (some ⟨g, 0, none⟩)] w' fun e w'' => e = .returned (.bool false) ∧ w'' = w'))
    (z2 : Hid (∀ w', Node w' h l2 r2 o2 → Calls Yba.prog 23 #[.pointer (some ⟨h, 0, none⟩)] w' fun e w'' => e = .returned (.bool true) ∧ w'' = w'))
    (i1 : Hid (∀ w' xs' v', Fr S w w' → S ≤ w'.heap.size → w'.ownsRow S 4 1 v' xs'.length (boolCells xs') → xs'.length + b1.length ≤ 100000 → Calls Yba.prog 14 #[.agg #[.pointer l1, .pointer r1, .bool o1], v'] w' fun e w'' => Encd S (xs' ++ b1) w' e w''))
    : Calls Yba.prog 14 #[.agg #[.pointer (some ⟨g, 0, none⟩), .pointer (some ⟨h, 0, none⟩), .bool o], v] w fun e w' => Encd S (xs ++ [true, false] ++ b1) w e w' := by
  obtain ⟨i0, hi, hz0, hz1, hz2⟩ := info_parts info4
  have hB1 : Below w.heap.size w (w.alloc (.cells #[.pointer (some ⟨g, 0, none⟩), .pointer (some ⟨h, 0, none⟩), .bool o] 36)) := (Below.refl _ _).alloc (Nat.le_refl _) _
  have Z1 : Hid (Calls Yba.prog 23 _ _ _) := z1.out _ (Nodes.below hB1 _ _ _ _ (Nat.zero_le _) n1.out)
  have Z2 : Hid (Calls Yba.prog 23 _ _ _) := z2.out _ (Nodes.below hB1 _ _ _ _ (Nat.zero_le _) n2.out)
  have F2 : Hid (∀ O, Fr S w ((w.alloc (.cells #[.pointer (some ⟨g, 0, none⟩), .pointer (some ⟨h, 0, none⟩), .bool o] 36)).alloc O)) := fun O => Fr.of_below (((Below.refl _ _).alloc (Nat.le_refl _) _).alloc (by simp) _) hS
  have N2 : Hid (∀ O, Node ((w.alloc (.cells #[.pointer (some ⟨g, 0, none⟩), .pointer (some ⟨h, 0, none⟩), .bool o] 36)).alloc O) w.heap.size (some ⟨g, 0, none⟩) (some ⟨h, 0, none⟩) o) := fun O => Nodes.below ((Below.refl _ _).alloc (Nat.le_refl _) _) _ _ _ _ (Nat.zero_le _) (node_new w _ _ o)
  clear hB1
  go_enter Yba.func14, Yba.ntmps14
  go_wp2_with fail
  refine Z1.out.mono ?_
  rintro e w1 ⟨rfl, hw1⟩
  subst hw1
  go_wp2_with fail
  refine Z2.out.mono ?_
  rintro e w1 ⟨rfl, hw1⟩
  subst hw1
  go_wp2_with (at_builtin; refine wpList_append_own _ rfl _ _ 43 rfl S 4 i0 (.bool false) 1 1 Yba.underlying43 hi hz0 hz1 hz2 rfl (by decide) _ _ _ rfl ((hown.alloc _).alloc _) _ 2 2 [.bool true, .bool false] rfl rfl ?c1 ?c2 ?c3 ?c4 ?c5 ?_)
  case c1 =>
    intro j u hj
    match j, hj with
    | 0, hj => simp at hj; subst hj; simp [Addr.add]
    | 1, hj => simp at hj; subst hj; simp [Addr.add]
  case c2 => intro u hu; simp at hu; rcases hu with rfl | rfl <;> rfl
  case c3 => unfold maxLen; omega
  case c4 => omega
  case c5 => simp; omega
  intro v1 w2 hown' hgrow _
  have hF := grown_fr4 (by simp; omega) ((hown.alloc _).alloc _) hgrow
  have F3 : Hid (Fr S w w2) := (F2.out _).trans hF
  have N3 := hF.nodes _ _ _ _ (Nat.zero_le _) (N2.out _)
  have O3 : Hid (w2.ownsRow S 4 1 v1 (xs ++ [true, false]).length (boolCells (xs ++ [true, false]))) := by
    show World.ownsRow _ _ _ _ _ _ _
    rw [boolCells_append, List.length_append]; exact hown'
  have NH := F3.out.nodes _ _ _ _ (Nat.zero_le _) n2.out
  have NG := F3.out.nodes _ _ _ _ (Nat.zero_le _) n1.out
  obtain ⟨p0, p1, p2, -⟩ := N3.cells
  have N3h : Hid (Node w2 w.heap.size (some ⟨g, 0, none⟩) (some ⟨h, 0, none⟩) o) := N3
  obtain ⟨q0, q1, q2, -⟩ := NH.cells
  obtain ⟨s0, s1, s2, -⟩ := NG.cells
  clear hF N3 NH NG hown' hgrow hown
  go_wp2_with fail
  refine (i1.out w2 (xs ++ [true, false]) v1 F3.out (Nat.le_trans hS F3.out.size) O3.out (by simp; omega)).mono ?_
  rintro e w3 ⟨v2, rfl, ho3, hF3⟩
  go_wp2_with fail
  go_ret
  exact ⟨v2, rfl, ho3, F3.out.trans hF3⟩

set_option maxHeartbeats 2000000 in
theorem enc_both (S : Nat) (g h : Nat) (o : Bool) (l1 r1 : Option Addr) (o1 : Bool) (l2 r2 : Option Addr) (o2 : Bool) (v : Value) (xs b1 b2 : List Bool) (w : World) (hS : S ≤ w.heap.size) (n1 : Hid (Node w g l1 r1 o1)) (n2 : Hid (Node w h l2 r2 o2))
    (hown : w.ownsRow S 4 1 v xs.length (boolCells xs)) (hlim : xs.length + 2 + b1.length + b2.length ≤ 100000)
    (z1 : Hid (∀ w', Node w' g l1 r1 o1 → Calls Yba.prog 23 #[.pointer (some ⟨g, 0, none⟩)] w' fun e w'' => e = .returned (.bool false) ∧ w'' = w'))
    (z2 : Hid (∀ w', Node w' h l2 r2 o2 → Calls Yba.prog 23 #[.pointer (some ⟨h, 0, none⟩)] w' fun e w'' => e = .returned (.bool false) ∧ w'' = w'))
    (i1 : Hid (∀ w' xs' v', Fr S w w' → S ≤ w'.heap.size → w'.ownsRow S 4 1 v' xs'.length (boolCells xs') → xs'.length + b1.length ≤ 100000 → Calls Yba.prog 14 #[.agg #[.pointer l1, .pointer r1, .bool o1], v'] w' fun e w'' => Encd S (xs' ++ b1) w' e w''))
    (i2 : Hid (∀ w' xs' v', Fr S w w' → S ≤ w'.heap.size → w'.ownsRow S 4 1 v' xs'.length (boolCells xs') → xs'.length + b2.length ≤ 100000 → Calls Yba.prog 14 #[.agg #[.pointer l2, .pointer r2, .bool o2], v'] w' fun e w'' => Encd S (xs' ++ b2) w' e w''))
    : Calls Yba.prog 14 #[.agg #[.pointer (some ⟨g, 0, none⟩), .pointer (some ⟨h, 0, none⟩), .bool o], v] w fun e w' => Encd S (xs ++ [true, true] ++ b1 ++ b2) w e w' := by
  obtain ⟨i0, hi, hz0, hz1, hz2⟩ := info_parts info4
  have hB1 : Below w.heap.size w (w.alloc (.cells #[.pointer (some ⟨g, 0, none⟩), .pointer (some ⟨h, 0, none⟩), .bool o] 36)) := (Below.refl _ _).alloc (Nat.le_refl _) _
  have Z1 : Hid (Calls Yba.prog 23 _ _ _) := z1.out _ (Nodes.below hB1 _ _ _ _ (Nat.zero_le _) n1.out)
  have Z2 : Hid (Calls Yba.prog 23 _ _ _) := z2.out _ (Nodes.below hB1 _ _ _ _ (Nat.zero_le _) n2.out)
  have F2 : Hid (∀ O, Fr S w ((w.alloc (.cells #[.pointer (some ⟨g, 0, none⟩), .pointer (some ⟨h, 0, none⟩), .bool o] 36)).alloc O)) := fun O => Fr.of_below (((Below.refl _ _).alloc (Nat.le_refl _) _).alloc (by simp) _) hS
  have N2 : Hid (∀ O, Node ((w.alloc (.cells #[.pointer (some ⟨g, 0, none⟩), .pointer (some ⟨h, 0, none⟩), .bool o] 36)).alloc O) w.heap.size (some ⟨g, 0, none⟩) (some ⟨h, 0, none⟩) o) := fun O => Nodes.below ((Below.refl _ _).alloc (Nat.le_refl _) _) _ _ _ _ (Nat.zero_le _) (node_new w _ _ o)
  clear hB1
  go_enter Yba.func14, Yba.ntmps14
  go_wp2_with fail
  refine Z1.out.mono ?_
  rintro e w1 ⟨rfl, hw1⟩
  subst hw1
  go_wp2_with fail
  refine Z2.out.mono ?_
  rintro e w1 ⟨rfl, hw1⟩
  subst hw1
  go_wp2_with (at_builtin; refine wpList_append_own _ rfl _ _ 43 rfl S 4 i0 (.bool false) 1 1 Yba.underlying43 hi hz0 hz1 hz2 rfl (by decide) _ _ _ rfl ((hown.alloc _).alloc _) _ 2 2 [.bool true, .bool true] rfl rfl ?c1 ?c2 ?c3 ?c4 ?c5 ?_)
  case c1 =>
    intro j u hj
    match j, hj with
    | 0, hj => simp at hj; subst hj; simp [Addr.add]
    | 1, hj => simp at hj; subst hj; simp [Addr.add]
  case c2 => intro u hu; simp at hu; subst hu; rfl
  case c3 => unfold maxLen; omega
  case c4 => omega
  case c5 => simp; omega
  intro v1 w2 hown' hgrow _
  have hF := grown_fr4 (by simp; omega) ((hown.alloc _).alloc _) hgrow
  have F3 : Hid (Fr S w w2) := (F2.out _).trans hF
  have N3 := hF.nodes _ _ _ _ (Nat.zero_le _) (N2.out _)
  have O3 : Hid (w2.ownsRow S 4 1 v1 (xs ++ [true, true]).length (boolCells (xs ++ [true, true]))) := by
    show World.ownsRow _ _ _ _ _ _ _
    rw [boolCells_append, List.length_append]; exact hown'
  have NH := F3.out.nodes _ _ _ _ (Nat.zero_le _) n2.out
  have NG := F3.out.nodes _ _ _ _ (Nat.zero_le _) n1.out
  obtain ⟨p0, p1, p2, -⟩ := N3.cells
  have N3h : Hid (Node w2 w.heap.size (some ⟨g, 0, none⟩) (some ⟨h, 0, none⟩) o) := N3
  obtain ⟨q0, q1, q2, -⟩ := NH.cells
  obtain ⟨s0, s1, s2, -⟩ := NG.cells
  clear hF N3 NH NG hown' hgrow hown
  go_wp2_with fail
  refine (i1.out w2 (xs ++ [true, true]) v1 F3.out (Nat.le_trans hS F3.out.size) O3.out (by simp; omega)).mono ?_
  rintro e w3 ⟨v2, rfl, ho3, hF3⟩
  have F4 : Hid (Fr S w w3) := F3.out.trans hF3
  have N4 := hF3.nodes _ _ _ _ (Nat.zero_le _) N3h.out
  have NH4 := F4.out.nodes _ _ _ _ (Nat.zero_le _) n2.out
  have O4 : Hid (w3.ownsRow S 4 1 v2 (xs ++ [true, true] ++ b1).length (boolCells (xs ++ [true, true] ++ b1))) := ho3
  clear p0 p1 p2 q0 q1 q2 s0 s1 s2
  obtain ⟨p0, p1, p2, -⟩ := N4.cells
  obtain ⟨q0, q1, q2, -⟩ := NH4.cells
  clear N4 NH4 ho3 hF3
  go_wp2_with fail
  refine (i2.out w3 (xs ++ [true, true] ++ b1) v2 F4.out (Nat.le_trans hS F4.out.size) O4.out (by simp; omega)).mono ?_
  rintro e w4 ⟨v3, rfl, ho4, hF4⟩
  go_wp2_with fail
  go_ret
  exact ⟨v3, rfl, ho4, F4.out.trans hF4⟩

/-- zzs0291cenc: the id's code bits are appended. -/
theorem enc_any (S : Nat) : ∀ (d : Nat) (l r : Option Addr) (o : Bool) (eb xs : List Bool) (v : Value) (w : World), Enc 0 d w l r o eb → S ≤ w.heap.size → w.ownsRow S 4 1 v xs.length (boolCells xs) → xs.length + eb.length ≤ 100000 →
    Calls Yba.prog 14 #[.agg #[.pointer l, .pointer r, .bool o], v] w fun e w' => Encd S (xs ++ eb) w e w'
  | 0, l, r, o, eb, xs, v, w, h, _, _, _ => h.elim
  | d + 1, l, r, o, eb, xs, v, w, h, hS, hown, hlim => by
    rcases h with ⟨rfl, rfl⟩ | ⟨g, h', l1, r1, o1, l2, r2, o2, b1, b2, rfl, rfl, _, n1, n2, c1, c2, rfl⟩
    · have e3 : boolCells (xs ++ [false, false, o]) = boolCells xs ++ [.bool false, .bool false, .bool o] := boolCells_append _ _
      unfold Encd
      rw [e3, List.length_append]
      cases o
      · exact enc_leaf_false S r v xs w hS hown hlim
      · exact enc_leaf_true S r v xs w hS hown hlim
    · have i1 : ∀ w' xs' v', Fr S w w' → S ≤ w'.heap.size → w'.ownsRow S 4 1 v' xs'.length (boolCells xs') → xs'.length + b1.length ≤ 100000 → Calls Yba.prog 14 #[.agg #[.pointer l1, .pointer r1, .bool o1], v'] w' fun e w'' => Encd S (xs' ++ b1) w' e w'' := fun w' xs' v' hf hS' ho hl =>
        enc_any S d l1 r1 o1 b1 xs' v' w' (c1.mono hf.nodes) hS' ho hl
      have i2 : ∀ w' xs' v', Fr S w w' → S ≤ w'.heap.size → w'.ownsRow S 4 1 v' xs'.length (boolCells xs') → xs'.length + b2.length ≤ 100000 → Calls Yba.prog 14 #[.agg #[.pointer l2, .pointer r2, .bool o2], v'] w' fun e w'' => Encd S (xs' ++ b2) w' e w'' := fun w' xs' v' hf hS' ho hl =>
        enc_any S d l2 r2 o2 b2 xs' v' w' (c2.mono hf.nodes) hS' ho hl
      have z1 : ∀ w', Node w' g l1 r1 o1 → Calls Yba.prog 23 #[.pointer (some ⟨g, 0, none⟩)] w' fun e w'' => e = .returned (.bool (zeroB l1 o1)) ∧ w'' = w' := fun w' hn => czero_any g l1 r1 o1 w' hn
      have z2 : ∀ w', Node w' h' l2 r2 o2 → Calls Yba.prog 23 #[.pointer (some ⟨h', 0, none⟩)] w' fun e w'' => e = .returned (.bool (zeroB l2 o2)) ∧ w'' = w' := fun w' hn => czero_any h' l2 r2 o2 w' hn
      by_cases hz1 : zeroB l1 o1 = true
      · rw [if_pos hz1] at hlim ⊢
        rw [hz1] at z1
        rw [← List.append_assoc]
        exact enc_right S g h' o l1 r1 o1 l2 r2 o2 v xs [] b2 w hS n1 n2 hown (by simp at hlim ⊢; omega) z1 i2
      · rw [if_neg hz1] at hlim ⊢
        rw [Bool.eq_false_iff.2 hz1] at z1
        by_cases hz2 : zeroB l2 o2 = true
        · rw [if_pos hz2] at hlim ⊢
          rw [hz2] at z2
          rw [← List.append_assoc]
          exact enc_left S g h' o l1 r1 o1 l2 r2 o2 v xs b1 [] w hS n1 n2 hown (by simp at hlim ⊢; omega) z1 z2 i1
        · rw [if_neg hz2] at hlim ⊢
          rw [Bool.eq_false_iff.2 hz2] at z2
          rw [← List.append_assoc, ← List.append_assoc]
          exact enc_both S g h' o l1 r1 o1 l2 r2 o2 v xs b1 b2 w hS n1 n2 hown (by simp at hlim ⊢; omega) z1 z2 i1 i2
end Go.Proofs.Ybulkezs
