import Derived.Test.YbulkffcLow
import Derived.Test.YbulkffcMath
namespace Go.Proofs.Ybulkffc
open Go.RowKit
set_option linter.unusedVariables false

/-- The row of tokens in block bT: n of them, texts T, kinds K. -/
def Toks (w : World) (bT n : Nat) (T : Nat → ByteArray) (K : Nat → Nat) : Prop := ∀ i, i < n →
  w.cell? ⟨bT, i * 6, none⟩ = some (.string (T i)) ∧ w.cell? ⟨bT, i * 6 + 1, none⟩ = some (.slice none 0 0) ∧ w.cell? ⟨bT, i * 6 + 2, none⟩ = some (.int .i64 0) ∧
  w.cell? ⟨bT, i * 6 + 3, none⟩ = some (.int .u8 (K i)) ∧ w.cell? ⟨bT, i * 6 + 4, none⟩ = some (.bool false) ∧ w.cell? ⟨bT, i * 6 + 5, none⟩ = some (.bool false)

theorem Toks.below {w wr : World} {bT n : Nat} {T : Nat → ByteArray} {K : Nat → Nat} (h : Toks w bT n T K) (hb : bT < w.heap.size) (hB : Below w.heap.size w wr) : Toks wr bT n T K := fun i hi => by
  obtain ⟨a, b, c, d, e, f⟩ := h i hi
  exact ⟨(hB.cell hb).trans a, (hB.cell hb).trans b, (hB.cell hb).trans c, (hB.cell hb).trans d, (hB.cell hb).trans e, (hB.cell hb).trans f⟩

set_option maxHeartbeats 1000000 in
theorem name_any (bS bT n fr en : Nat) (T : Nat → ByteArray) (K : Nat → Nat) (D : Nat → Bool) (hD : Hid (∀ i, D i = dotB (T i) (K i))) (w : World) (hn : n ≤ 1024) (hfr : fr ≤ n) (hen : en ≤ n) (hK : ∀ i, K i < 4)
    (hS : bS < w.heap.size) (hT : bT < w.heap.size) (hc : w.cell? ⟨bS, 2, none⟩ = some (.slice (some ⟨bT, 0, none⟩) n n)) (ht : Toks w bT n T K) :
    Calls Yba.prog 7 #[.pointer (some ⟨bS, 0, none⟩), .int .i64 fr, .int .i64 en] w fun e w' => Below w.heap.size w w' ∧
      ((∃ k : Nat, fr ≤ k ∧ k < en ∧ e = .returned (.tuple #[.int .i64 k, .bool true]) ∧ M.Fits K D fr en k) ∨
       (e = .returned (.tuple #[.int .i64 0, .bool false]) ∧ ∀ L, fr ≤ L → L < en → ¬ M.Fits K D fr en L)) := by
  go_enter Yba.func7, Yba.ntmps7
  go_wp2
  go_loopw [9] (fun kk wr => ∃ m : Nat, kk = .int .i64 (fr + 2 * m : Nat) ∧ fr + 2 * m ≤ n ∧ M.Run K D fr en m ∧ Below w.heap.size w wr) (fun kk _ => (2000 - intOf kk).toNat)
  case atStart => exact ⟨0, by simp, by omega, M.run_zero _ _ _ _, Below.refl _ _⟩
  case round =>
    obtain ⟨m, rfl, hm, hrun, hB⟩ := hrel
    have htr := ht.below hT hB
    have hTr : bT < wr.heap.size := Nat.lt_of_lt_of_le hT hB.size
    have HR : Hid (M.Run K D fr en m) := hrun
    have HK : Hid (∀ i, K i < 4) := hK
    have HTr : Hid (Toks wr bT n T K) := htr
    clear hrun hK htr ht hc
    have hDk : D (fr + 2 * m + 1) = dotB (T (fr + 2 * m + 1)) (K (fr + 2 * m + 1)) := hD.out _
    have hmk : fr ≤ fr + 2 * m := by omega
    by_cases h1 : fr + 2 * m + 1 < en
    · by_cases hk1 : K (fr + 2 * m) = 1
      · by_cases hd : D (fr + 2 * m + 1) = true
        · -- a name and a dot: on
          have HN : Hid (M.Run K D fr en (m + 1)) := M.run_succ HR.out h1 hk1 hd
          obtain ⟨c0, c1, c2, c3, c4, c5⟩ := HTr.out (fr + 2 * m) (by omega)
          obtain ⟨d0, d1, d2, d3, d4, d5⟩ := HTr.out (fr + 2 * m + 1) (by omega)
          have hcall : Hid (Calls Yba.prog 13 _ wr _) := is_any (T (fr + 2 * m + 1)) (K (fr + 2 * m + 1)) (HK.out _) wr
          rw [← hDk, hd] at hcall
          have b1 : K (fr + 2 * m) ≤ 1 := by omega
          have b2 : 1 ≤ K (fr + 2 * m) := by omega
          clear hk1 hd hDk
          generalize hk : fr + 2 * m = k at *
          have Hk : Hid (fr + 2 * m = k) := hk
          clear hk
          generalize K k = K1 at *
          generalize K (k + 1) = K2 at *
          generalize T (k + 1) = T2 at *
          go_wp2_with fail
          refine hcall.out.mono ?_
          rintro e w2 ⟨rfl, rfl⟩
          go_wp2_with fail
          go_roundw
          case rel => exact ⟨m + 1, by have := Hk.out; go_num, by have := Hk.out; omega, HN.out, hB.alloc hB.size _⟩
          case measure => simp [intOf]; omega
        · -- a name and no dot: found
          have HF : Hid (M.Fits K D fr en (fr + 2 * m)) := M.fits_of_run HR.out hk1 (fun h => hd h.2)
          obtain ⟨c0, c1, c2, c3, c4, c5⟩ := HTr.out (fr + 2 * m) (by omega)
          obtain ⟨d0, d1, d2, d3, d4, d5⟩ := HTr.out (fr + 2 * m + 1) (by omega)
          have hcall : Hid (Calls Yba.prog 13 _ wr _) := is_any (T (fr + 2 * m + 1)) (K (fr + 2 * m + 1)) (HK.out _) wr
          rw [← hDk, Bool.eq_false_iff.2 hd] at hcall
          have b1 : K (fr + 2 * m) ≤ 1 := by omega
          have b2 : 1 ≤ K (fr + 2 * m) := by omega
          clear hk1 hd hDk
          generalize hk : fr + 2 * m = k at *
          clear hk
          generalize K k = K1 at *
          generalize K (k + 1) = K2 at *
          generalize T (k + 1) = T2 at *
          go_wp2_with fail
          refine hcall.out.mono ?_
          rintro e w2 ⟨rfl, rfl⟩
          go_wp2_with fail
          go_ret2
          exact ⟨hB.alloc hB.size _, .inl ⟨k, hmk, by omega, rfl, HF.out⟩⟩
      · -- no name: none
        have HF : Hid (∀ L, fr ≤ L → L < en → ¬ M.Fits K D fr en L) := M.none_of_run HR.out (fun h => hk1 h.2.1) (.inr hk1)
        obtain ⟨c0, c1, c2, c3, c4, c5⟩ := HTr.out (fr + 2 * m) (by omega)
        have b1 : ((K (fr + 2 * m) : Int) == 1) = false := by simp; omega
        have b2 : ((K (fr + 2 * m) : Int) != 1) = true := by simp; omega
        clear hk1 hDk
        generalize hk : fr + 2 * m = k at *
        clear hk
        generalize K k = K1 at *
        go_wp2_with fail
        go_ret2
        exact ⟨hB, .inr ⟨rfl, HF.out⟩⟩
    · by_cases h2 : en ≤ fr + 2 * m
      · have HF : Hid (∀ L, fr ≤ L → L < en → ¬ M.Fits K D fr en L) := M.none_of_run HR.out (fun h => h1 h.1) (.inl h2)
        clear hDk
        generalize hk : fr + 2 * m = k at *
        clear hk
        go_wp2_with fail
        go_ret2
        exact ⟨hB, .inr ⟨rfl, HF.out⟩⟩
      · by_cases hk1 : K (fr + 2 * m) = 1
        · have HF : Hid (M.Fits K D fr en (fr + 2 * m)) := M.fits_of_run HR.out hk1 (fun h => h1 h.1)
          obtain ⟨c0, c1, c2, c3, c4, c5⟩ := HTr.out (fr + 2 * m) (by omega)
          have b1 : ((K (fr + 2 * m) : Int) != 1) = false := by simp; omega
          clear hk1 hDk
          generalize hk : fr + 2 * m = k at *
          clear hk
          generalize K k = K1 at *
          go_wp2_with fail
          go_ret2
          exact ⟨hB, .inl ⟨k, hmk, by omega, rfl, HF.out⟩⟩
        · have HF : Hid (∀ L, fr ≤ L → L < en → ¬ M.Fits K D fr en L) := M.none_of_run HR.out (fun h => h1 h.1) (.inr hk1)
          obtain ⟨c0, c1, c2, c3, c4, c5⟩ := HTr.out (fr + 2 * m) (by omega)
          have b2 : ((K (fr + 2 * m) : Int) != 1) = true := by simp; omega
          clear hk1 hDk
          generalize hk : fr + 2 * m = k at *
          clear hk
          generalize K k = K1 at *
          go_wp2_with fail
          go_ret2
          exact ⟨hB, .inr ⟨rfl, HF.out⟩⟩
end Go.Proofs.Ybulkffc
