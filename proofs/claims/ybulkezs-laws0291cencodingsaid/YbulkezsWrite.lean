import Derived.Test.YbulkezsAppend
namespace Go.Proofs.Ybulkezs
open Go.RowKit
set_option linter.unusedVariables false

/-- The writer's block. -/
def WrAt (w : World) (bw : Nat) (sv : Value) (acc n : Nat) : Prop := w.heap[bw]? = some (.cells #[sv, .int .u64 acc, .int .i64 n] 40 (0, 0))
theorem WrAt.lt {w : World} {bw : Nat} {sv : Value} {acc n : Nat} (h : WrAt w bw sv acc n) : bw < w.heap.size := (Array.getElem?_eq_some_iff.1 h).1
theorem WrAt.cells {w : World} {bw : Nat} {sv : Value} {acc n : Nat} (h : WrAt w bw sv acc n) :
    w.cell? ⟨bw, 0, none⟩ = some sv ∧ w.cell? ⟨bw, 1, none⟩ = some (.int .u64 acc) ∧ w.cell? ⟨bw, 2, none⟩ = some (.int .i64 n) ∧ ∀ j, w.frozen? ⟨bw, j, none⟩ = false := by
  unfold WrAt at h
  exact ⟨by simp [World.cell?, h], by simp [World.cell?, h], by simp [World.cell?, h], fun j => by simp [World.frozen?, h]⟩

/-- Below S nothing has turned, and no node has. -/
structure Fr (S : Nat) (w w' : World) : Prop where
  below : Below S w w'
  nodes : Nodes 0 w w'
theorem Fr.refl (S : Nat) (w : World) : Fr S w w := ⟨Below.refl _ _, Nodes.refl _ _⟩
theorem Fr.trans {S : Nat} {a b c : World} (h : Fr S a b) (k : Fr S b c) : Fr S a c := ⟨h.below.trans k.below, h.nodes.trans k.nodes⟩
theorem Fr.of_below {S : Nat} {w w' : World} (h : Below w.heap.size w w') (hS : S ≤ w.heap.size) : Fr S w w' := ⟨h.mono hS, Nodes.below h⟩
theorem Fr.size {S : Nat} {w w' : World} (h : Fr S w w') : w.heap.size ≤ w'.heap.size := h.below.size

/-- The writer holds the bytes 'pre' and the bits bs. -/
def Wr (S bw : Nat) (pre : List Nat) (bs : List Bool) (w : World) : Prop :=
  ∃ sv xs acc n, WrAt w bw sv acc n ∧ S ≤ bw ∧ w.ownsRow S 5 1 sv xs.length (byteCells xs) ∧ M.Rep pre bs xs acc n

/-- A store into the writer's block. -/
theorem wr_fr {w : World} {S bw : Nat} {sv : Value} {acc n : Nat} (h : WrAt w bw sv acc n) (hS : S ≤ bw) (j : Nat) (v : Value) : Fr S w (w.setCell ⟨bw, j, none⟩ v) := by
  refine ⟨(Below.refl _ _).setCell (by simpa using hS) _, fun g l r o _ hn => ?_⟩
  have hne : g ≠ bw := by
    rintro rfl
    unfold WrAt at h; unfold Node at hn
    rw [h] at hn
    simp at hn
  unfold Node at *
  rw [setCell_block (by exact hne)]; exact hn

theorem wr_row {w : World} {S bw : Nat} {sv : Value} {acc n : Nat} {v0 : Value} {m : Nat} {xs : List Value} (h : WrAt w bw sv acc n) (ho : w.ownsRow S 5 1 v0 m xs) (j : Nat) (v : Value) : (w.setCell ⟨bw, j, none⟩ v).ownsRow S 5 1 v0 m xs := by
  obtain ⟨hl, h1 | ⟨g, cap, cur, e1, e2, e3, e4, e5, e6, e7⟩⟩ := ho
  · exact ⟨hl, .inl h1⟩
  · refine ⟨hl, .inr ⟨g, cap, cur, e1, e2, ?_, e4, e5, e6, e7⟩⟩
    have hne : g ≠ bw := by
      rintro rfl
      unfold WrAt at h
      rw [h] at e3
      simp at e3
    rw [setCell_block (by exact hne)]; exact e3

theorem or_shl (acc v m : Nat) (ha : acc < 18446744073709551616) (hm : m ≤ 64) (hv : v < 2 ^ m) : bits BinOp.or IntKind.u64 (IntKind.u64.wrap ((acc : Int) * 2 ^ m)) (v : Int) = ((acc * 2 ^ m % 2 ^ 64 + v : Nat) : Int) := by
  have e64 : (2 : Nat) ^ 64 = 2 ^ (64 - m) * 2 ^ m := by rw [← Nat.pow_add]; congr 1; omega
  have h2 : acc * 2 ^ m % 2 ^ 64 = 2 ^ m * (acc % 2 ^ (64 - m)) := by rw [e64, Nat.mul_mod_mul_right, Nat.mul_comm]
  have hw : IntKind.u64.wrap ((acc : Int) * 2 ^ m) = ((acc * 2 ^ m % 2 ^ 64 : Nat) : Int) := by
    rw [IntKind.wrap_u64]
    simp
  have hv64 : v < 2 ^ 64 := Nat.lt_of_lt_of_le hv (Nat.pow_le_pow_right (by decide) hm)
  rw [hw, u64_or_nat _ _ (Nat.mod_lt _ (by decide)) hv64, h2, ← Nat.two_pow_add_eq_or_of_lt hv]

set_option maxHeartbeats 1000000 in
theorem write_core (bw : Nat) (sv : Value) (acc n v m X : Nat) (w : World) (hm : m ≤ 3) (hn : n + m ≤ 64)
    (c0 : w.cell? ⟨bw, 0, none⟩ = some sv) (c1 : w.cell? ⟨bw, 1, none⟩ = some (.int .u64 acc)) (c2 : w.cell? ⟨bw, 2, none⟩ = some (.int .i64 n)) (f : ∀ j, w.frozen? ⟨bw, j, none⟩ = false)
    (key : bits BinOp.or IntKind.u64 (IntKind.u64.wrap ((acc : Int) * 2 ^ m)) (v : Int) = (X : Int)) :
    Calls Yba.prog 17 #[.pointer (some ⟨bw, 0, none⟩), .int .u64 v, .int .i64 m] w fun e w' => e = .returned (.tuple #[]) ∧ w' = (w.setCell ⟨bw, 1, none⟩ (.int .u64 X)).setCell ⟨bw, 2, none⟩ (.int .i64 (n + m : Nat)) := by
  go_enter Yba.func17, Yba.ntmps17
  go_wp2
  go_end0
  exact ⟨rfl, rfl⟩

set_option maxHeartbeats 1000000 in
theorem spill_core (bw : Nat) (sv : Value) (acc n v m r Y : Nat) (w : World) (hm : m ≤ 3) (hn : n ≤ 64) (hnm : 64 < n + m) (hr3 : r ≤ 3) (hr64 : (r : Int) ≤ 64) (kr : IntKind.i64.wrap ((m : Int) - (64 - (n : Int))) = (r : Int)) (Post : Value → World → Prop)
    (c0 : w.cell? ⟨bw, 0, none⟩ = some sv) (c1 : w.cell? ⟨bw, 1, none⟩ = some (.int .u64 acc)) (c2 : w.cell? ⟨bw, 2, none⟩ = some (.int .i64 n)) (f : ∀ j, w.frozen? ⟨bw, j, none⟩ = false)
    (key : bits BinOp.or IntKind.u64 (IntKind.u64.wrap ((acc : Int) * 2 ^ (64 - n))) ((v : Int) / 2 ^ r) = (Y : Int))
    (h22 : Hid (∀ q, Calls Yba.prog 22 #[.agg #[], sv, .int .u64 Y] (w.drewN q) fun e w' => ∃ a' l' c', e = .returned (.slice a' l' c') ∧ Post (.slice a' l' c') w'))
    (hPost : Hid (∀ v' w', Post v' w' → w'.cell? ⟨bw, 0, none⟩ = some sv ∧ w'.cell? ⟨bw, 1, none⟩ = some (.int .u64 acc) ∧ w'.cell? ⟨bw, 2, none⟩ = some (.int .i64 n) ∧ ∀ j, w'.frozen? ⟨bw, j, none⟩ = false)) :
    Calls Yba.prog 27 #[.pointer (some ⟨bw, 0, none⟩), .int .u64 v, .int .i64 m] w fun e w' => e = .returned (.tuple #[]) ∧ ∃ v' w1, Post v' w1 ∧ w' = ((w1.setCell ⟨bw, 0, none⟩ v').setCell ⟨bw, 1, none⟩ (.int .u64 v)).setCell ⟨bw, 2, none⟩ (.int .i64 r) := by
  have f0 := f 0
  have k0 : ∀ q, (w.drewN q).cell? ⟨bw, 0, none⟩ = some sv ∧ (w.drewN q).cell? ⟨bw, 1, none⟩ = some (.int .u64 acc) := fun q => ⟨c0, c1⟩
  go_enter Yba.func27, Yba.ntmps27
  go_wp2
  go_region_with (first | (go_at_call 22; refine (h22.out 1).mono ?_; rintro e w1 ⟨a', l', c', rfl, hP⟩; have hP' : Hid (Post (.slice a' l' c') w1) := hP; obtain ⟨g0, g1, g2, gf⟩ := hPost.out _ _ hP; clear hP))
  all_goals
    go_wp2
    go_end0
    exact ⟨rfl, _, _, hP'.out, rfl⟩
set_option maxHeartbeats 1000000 in
theorem write_spill (bw : Nat) (n v m : Nat) (w : World) (Post : World → Prop) (hm : m ≤ 3) (hn : n ≤ 64) (hnm : 64 < n + m) (c2 : w.cell? ⟨bw, 2, none⟩ = some (.int .i64 n))
    (h27 : Hid (Calls Yba.prog 27 #[.pointer (some ⟨bw, 0, none⟩), .int .u64 v, .int .i64 m] w fun e w' => e = .returned (.tuple #[]) ∧ Post w')) :
    Calls Yba.prog 17 #[.pointer (some ⟨bw, 0, none⟩), .int .u64 v, .int .i64 m] w fun e w' => e = .returned (.tuple #[]) ∧ Post w' := by
  go_enter Yba.func17, Yba.ntmps17
  go_wp2_with fail
  refine h27.out.mono ?_
  rintro e w1 ⟨rfl, hP⟩
  go_wp2_with fail
  exact bodyPost_ret (v := .tuple #[]) (by simp [results, Yba.results17, go_sem]) rfl ⟨rfl, hP⟩

theorem ownsRow_form {w : World} {S e n : Nat} {v : Value} {xs : List Value} (h : w.ownsRow S e 1 v n xs) : ∃ a l c, v = .slice a l c := by
  obtain ⟨_, ⟨rfl, _⟩ | ⟨g, cap, cur, rfl, _⟩⟩ := h
  · exact ⟨none, 0, 0, rfl⟩
  · exact ⟨some ⟨g, 0, none⟩, n, cap, rfl⟩

theorem own_ne {w : World} {S bw n acc m : Nat} {sv : Value} {xs : List Value} {v0 : Value} (h : WrAt w bw v0 acc m) (ho : w.ownsRow S 5 1 sv n xs) : some bw ≠ sv.ownBlock := by
  intro e
  obtain ⟨_, ⟨rfl, _⟩ | ⟨g, cap, cur, rfl, _, e3, _⟩⟩ := ho
  · simp [Value.ownBlock] at e
  · simp only [Value.ownBlock, Option.some.injEq] at e
    subst e
    unfold WrAt at h
    rw [h] at e3
    simp at e3
theorem node_ne {w : World} {S g n : Nat} {sv : Value} {xs : List Value} {l r : Option Addr} {o : Bool} (h : Node w g l r o) (ho : w.ownsRow S 5 1 sv n xs) : some g ≠ sv.ownBlock := by
  intro e
  obtain ⟨_, ⟨rfl, _⟩ | ⟨g', cap, cur, rfl, _, e3, _⟩⟩ := ho
  · simp [Value.ownBlock] at e
  · simp only [Value.ownBlock, Option.some.injEq] at e
    subst e
    unfold Node at h
    rw [h] at e3
    simp at e3
theorem own_ge {w : World} {S n : Nat} {sv : Value} {xs : List Value} (ho : w.ownsRow S 5 1 sv n xs) : ∀ k, k < S → some k ≠ sv.ownBlock := by
  intro k hk e
  obtain ⟨_, ⟨rfl, _⟩ | ⟨g', cap, cur, rfl, hb, e3, _⟩⟩ := ho
  · simp [Value.ownBlock] at e
  · simp only [Value.ownBlock, Option.some.injEq] at e
    omega
theorem grown_fr {w w' : World} {S n : Nat} {sv : Value} {xs : List Value} (hS : S ≤ w.heap.size) (ho : w.ownsRow S 5 1 sv n xs) (hg : w.grownBy w' sv.ownBlock) : Fr S w w' :=
  ⟨⟨hg.os, hg.tape, hg.output, hg.size, fun k hk => hg.block k (by omega) (own_ge ho k hk)⟩, fun g l r o _ hn => (hg.block g hn.lt (node_ne hn ho)).trans hn⟩

theorem wrAt_set2 {w : World} {bw : Nat} {sv : Value} {acc n : Nat} (h : WrAt w bw sv acc n) (acc' n' : Nat) : WrAt ((w.setCell ⟨bw, 1, none⟩ (.int .u64 acc')).setCell ⟨bw, 2, none⟩ (.int .i64 n')) bw sv acc' n' := by
  unfold WrAt at *
  simp [World.setCell, Array.getElem?_modify, h]
theorem wrAt_set3 {w : World} {bw : Nat} {sv : Value} {acc n : Nat} (h : WrAt w bw sv acc n) (sv' : Value) (acc' n' : Nat) : WrAt (((w.setCell ⟨bw, 0, none⟩ sv').setCell ⟨bw, 1, none⟩ (.int .u64 acc')).setCell ⟨bw, 2, none⟩ (.int .i64 n')) bw sv' acc' n' := by
  unfold WrAt at *
  simp [World.setCell, Array.getElem?_modify, h]
/-- What any store into the writer's block leaves. -/
theorem wr_fr' {w : World} {S bw : Nat} {c : Array Value} (h : w.heap[bw]? = some (.cells c 40 (0, 0))) (hS : S ≤ bw) (j : Nat) (v : Value) : Fr S w (w.setCell ⟨bw, j, none⟩ v) ∧ (∃ c', (w.setCell ⟨bw, j, none⟩ v).heap[bw]? = some (.cells c' 40 (0, 0))) ∧
    ∀ v0 m xs, w.ownsRow S 5 1 v0 m xs → (w.setCell ⟨bw, j, none⟩ v).ownsRow S 5 1 v0 m xs := by
  refine ⟨⟨(Below.refl _ _).setCell (by simpa using hS) _, fun g l r o _ hn => ?_⟩, ⟨_, by simp [World.setCell, Array.getElem?_modify, h]; rfl⟩, fun v0 m xs ho => ?_⟩
  · have hne : g ≠ bw := by
      rintro rfl
      unfold Node at hn
      rw [h] at hn
      simp at hn
    unfold Node at *
    rw [setCell_block (by exact hne)]; exact hn
  · obtain ⟨hl, h1 | ⟨g, cap, cur, e1, e2, e3, e4, e5, e6, e7⟩⟩ := ho
    · exact ⟨hl, .inl h1⟩
    · refine ⟨hl, .inr ⟨g, cap, cur, e1, e2, ?_, e4, e5, e6, e7⟩⟩
      have hne : g ≠ bw := by
        rintro rfl
        rw [h] at e3
        simp at e3
      rw [setCell_block (by exact hne)]; exact e3

theorem write_any (S bw : Nat) (pre : List Nat) (bs vb : List Bool) (w : World) (hvb : vb.length ≤ 3) (hS : S ≤ w.heap.size) (h : Wr S bw pre bs w) (hlim : pre.length + bs.length ≤ 100000) :
    Calls Yba.prog 17 #[.pointer (some ⟨bw, 0, none⟩), .int .u64 (M.val vb : Nat), .int .i64 (vb.length : Nat)] w fun e w' => e = .returned (.tuple #[]) ∧ (Wr S bw pre (bs ++ vb) w' ∧ Fr S w w') := by
  obtain ⟨sv, xs, acc, n, hw, hb, ho, hr⟩ := h
  obtain ⟨c0, c1, c2, f⟩ := hw.cells
  have hn64 := hr.1
  have hacc : acc < 18446744073709551616 := hr.2.1
  have hv := M.val_lt vb
  by_cases hnm : n + vb.length ≤ 64
  · refine (write_core bw sv acc n (M.val vb) vb.length _ w hvb hnm c0 c1 c2 f (or_shl acc (M.val vb) vb.length hacc (by omega) hv)).mono ?_
    rintro e w' ⟨rfl, rfl⟩
    obtain ⟨fr1, ⟨cc, hc⟩, ow1⟩ := wr_fr' hw hb 1 (.int .u64 (acc * 2 ^ vb.length % 2 ^ 64 + M.val vb : Nat))
    obtain ⟨fr2, _, ow2⟩ := wr_fr' hc hb 2 (.int .i64 (n + vb.length : Nat))
    exact ⟨rfl, ⟨sv, xs, _, _, wrAt_set2 hw _ _, hb, ow2 _ _ _ (ow1 _ _ _ ho), M.rep_write hr vb hnm⟩, fr1.trans fr2⟩
  · obtain ⟨cs, hcs, hval, hrep⟩ := M.rep_spill hr vb (by omega) (by omega)
    have hxs : xs.length ≤ 100000 := by
      obtain ⟨_, _, hd, tl, e1, e2, e3, e4, _⟩ := hr
      have l1 := congrArg List.length e1
      have l2 := congrArg List.length e4
      simp only [List.length_append, M.pack_length] at l1 l2
      omega
    have key : bits BinOp.or IntKind.u64 (IntKind.u64.wrap ((acc : Int) * 2 ^ (64 - n))) ((M.val vb : Int) / 2 ^ (vb.length - (64 - n))) = ((M.val cs : Nat) : Int) := by
      have hd : ((M.val vb : Int) / 2 ^ (vb.length - (64 - n))) = ((M.val vb / 2 ^ (vb.length - (64 - n)) : Nat) : Int) := by simp
      have hlt : M.val vb / 2 ^ (vb.length - (64 - n)) < 2 ^ (64 - n) := by
        rw [Nat.div_lt_iff_lt_mul (Nat.two_pow_pos _), ← Nat.pow_add, show 64 - n + (vb.length - (64 - n)) = vb.length by omega]
        exact hv
      rw [hd, or_shl acc _ (64 - n) hacc (by omega) hlt, hval]
    have h22 : ∀ q, Calls Yba.prog 22 #[.agg #[], sv, .int .u64 (M.val cs : Nat)] (w.drewN q) fun e w' => ∃ a' l' c', e = .returned (.slice a' l' c') ∧ (w'.ownsRow S 5 1 (.slice a' l' c') (xs ++ M.pack cs).length (byteCells (xs ++ M.pack cs)) ∧ w.grownBy w' sv.ownBlock) := by
      intro q
      refine (append64_any S cs hcs sv xs (w.drewN q) ho hS (by omega)).mono ?_
      rintro e w' ⟨v', rfl, hov, hg⟩
      obtain ⟨a', l', c', rfl⟩ := ownsRow_form hov
      exact ⟨a', l', c', rfl, hov, ⟨hg.os, hg.tape, hg.output, hg.size, hg.block⟩⟩
    have hne := own_ne hw ho
    have h27 := spill_core bw sv acc n (M.val vb) vb.length (vb.length - (64 - n)) (M.val cs) w hvb hn64 (by omega) (by omega) (by omega)
      (by simp [IntKind.wrap, IntKind.bits, IntKind.signed]; omega) (fun v' w' => w'.ownsRow S 5 1 v' (xs ++ M.pack cs).length (byteCells (xs ++ M.pack cs)) ∧ w.grownBy w' sv.ownBlock) c0 c1 c2 f key h22
      (fun v' w' hP => WrAt.cells (sv := sv) (acc := acc) (n := n) ((hP.2.block bw hw.lt hne).trans hw))
    refine (write_spill bw n (M.val vb) vb.length w _ hvb hn64 (by omega) c2 h27).mono ?_
    rintro e w' ⟨rfl, v', w1, ⟨hov, hg⟩, rfl⟩
    have hw1 : WrAt w1 bw sv acc n := (hg.block bw hw.lt hne).trans hw
    obtain ⟨fr1, ⟨ca, hca⟩, ow1⟩ := wr_fr' hw1 hb 0 v'
    obtain ⟨fr2, ⟨cb, hcb⟩, ow2⟩ := wr_fr' hca hb 1 (.int .u64 (M.val vb : Nat))
    obtain ⟨fr3, _, ow3⟩ := wr_fr' hcb hb 2 (.int .i64 (vb.length - (64 - n) : Nat))
    exact ⟨rfl, ⟨v', _, _, _, wrAt_set3 hw1 _ _ _, hb, ow3 _ _ _ (ow2 _ _ _ (ow1 _ _ _ hov)), hrep⟩, (grown_fr hS ho hg).trans (fr1.trans (fr2.trans fr3))⟩
end Go.Proofs.Ybulkezs
