import Derived.Test.YbulkeycDoorSlen
import Derived.Deep.DeepCutAuto
import Derived.Deep.CutBlock
/- slices.breakPatternsOrdered at words of 64 bits. -/
namespace Go.Proofs.YbulkeycDoor
open Go.RowKit
set_option linter.unusedVariables false

theorem and_mask (Y L : Nat) (hY : Y < 18446744073709551616) (hL : L ≤ 62) : ∃ o : Nat, o < 2 ^ L ∧ bits .and .u64 (Y : Int) (((2 ^ L : Nat) : Int) - 1) = (o : Int) := by
  have h1 : (2 : Nat) ^ L ≤ 2 ^ 62 := Nat.pow_le_pow_right (by omega) hL
  have h2 : 0 < 2 ^ L := Nat.two_pow_pos L
  have e : (((2 ^ L : Nat) : Int) - 1) = ((2 ^ L - 1 : Nat) : Int) := by omega
  refine ⟨Y &&& (2 ^ L - 1), ?_, ?_⟩
  · exact Nat.and_lt_two_pow _ (by omega)
  · rw [e, u64_and_nat _ _ hY (by omega)]

theorem Rnd.keep {w : World} {r X g : Nat} (h : Rnd w r X) (hg : g ≠ r) (i j : Nat) (v v' : Value) : Rnd ((w.setCell ⟨g, i, none⟩ v).setCell ⟨g, j, none⟩ v') r X := by
  unfold Rnd at *
  rw [heap_setCell_other _ _ _ _ _ (Ne.symm hg), heap_setCell_other _ _ _ _ _ (Ne.symm hg)]
  exact h
theorem Rnd.drew {w : World} {r X : Nat} (h : Rnd w r X) : Rnd w.drew r X := h
theorem SW.ne2 {w w0 : World} {r X g : Nat} {d : Array Int} (hS : SW g w0 d w) (h : Rnd w r X) : g ≠ r := h.ne hS

set_option maxHeartbeats 2000000 in
set_option maxRecDepth 100000 in
theorem brk_z (z g a b : Nat) (d : Array Int) (w0 w : World) (hz : Hid (z = 0)) (hS : Hid (SW g w0 d w)) (hab : a + 12 < b) (hb : b ≤ d.size) (hsz : d.size ≤ 100000) (cap : Nat) :
    Calls Ybad.prog 25 #[.slice (some ⟨g, z, none⟩) d.size cap, .int .i64 a, .int .i64 b] w fun e w' =>
      ∃ d' : Array Int, e = .returned (.tuple #[]) ∧ SW g w0 d' w' ∧ Sort.PermIn a b d d' := by
  obtain ⟨n, hn⟩ : ∃ n, n = b - a := ⟨_, rfl⟩
  have en : (b : Int) - a = (n : Int) := by omega
  have hn8 : 12 < n := by omega
  have hnb : a + n = b := by omega
  have N := next2_any n (by omega) (by omega)
  obtain ⟨L, hL⟩ : ∃ L, L = Lib.bitLen n := ⟨_, rfl⟩
  have hL17 : L ≤ 17 := by rw [hL]; exact len_le n (by omega) (by omega)
  have hb2 := len_bounds n (by omega) (by omega)
  rw [← hL] at N hb2
  have h2L : 2 ^ L ≤ 2 * n := by
    have : 2 ^ L = 2 * 2 ^ (L - 1) := by rw [← Nat.pow_succ']; congr 1; omega
    omega
  have N' : Hid (∀ w, Calls Ybad.prog 35 _ _ _) := N
  obtain ⟨M, hM⟩ : ∃ M, M = 2 ^ L := ⟨_, rfl⟩
  have HM : Hid (M = 2 ^ L) := hM
  have hM2 : M ≤ 2 * n := by omega
  have hM3 : 0 < M := by rw [hM]; exact Nat.two_pow_pos L
  have S0 : Hid (SW g w0 d (w.alloc (.cells #[.int .u64 (n : Int)] 68))) := hS.out.alloc _
  have R0 : Hid (Rnd (w.alloc (.cells #[.int .u64 (n : Int)] 68)) w.heap.size n) := heap_alloc_new w _
  have hr : Hid (w0.heap.size ≤ w.heap.size) := hS.out.size
  clear N hn hb2 h2L hM hL
  go_enter Ybad.func25, Ybad.ntmps25
  go_wp2_with fail
  refine (N'.out _).mono ?_
  rintro e w1 ⟨rfl, rfl⟩
  rw [← HM.out]
  go_wp2_with fail
  go_loopw [9] (fun vi wr => ∃ (t X : Nat) (dk : Array Int), vi = .int .i64 t ∧ a ≤ t ∧ t ≤ a + n / 4 * 2 + 2 ∧ SW g w0 dk wr ∧ Sort.PermIn a b d dk ∧ Rnd wr w.heap.size X) (fun vi _ => a + n / 4 * 2 + 3 - (intOf vi).toNat)
  case atStart => exact ⟨a + n / 4 * 2 - 1, n, d, by congr 1; omega, by omega, by omega, S0.out, Sort.permIn_refl _ _ _, R0.out⟩
  case round =>
    obtain ⟨t, X, dk, rfl, hat, htb, hw, hP, hR⟩ := hrel
    have HW : Hid (SW g w0 dk wr) := hw
    have HP : Hid (Sort.PermIn a b d dk) := hP
    have HR : Hid (Rnd wr w.heap.size X) := hR
    have sk : dk.size = d.size := hP.1
    clear hw hP hR
    by_cases hlt : t ≤ a + n / 4 * 2 + 1
    · have RN : Hid (Calls Ybad.prog 36 _ _ _) := rnd_any g w.heap.size X dk w0 wr HW HR hr
      go_wp2_with fail
      refine RN.out.mono ?_
      rintro e w2 ⟨Y, rfl, hY, hw2, hR2⟩
      obtain ⟨o, ho, eo⟩ := and_mask Y L hY (by omega)
      rw [← HM.out] at ho eo
      have HW2 : Hid (SW g w0 dk w2) := hw2
      have HR2 : Hid (Rnd w2 w.heap.size Y) := hR2
      obtain ⟨G, hG⟩ : ∃ G : Nat → Int, ∀ t, dk[t]! = G t := ⟨fun t => dk[t]!, fun _ => rfl⟩
      have HG : Hid (∀ t, dk[t]! = G t) := hG
      have hcw : ∀ t, t < d.size → w2.cell? ⟨g, z + t, none⟩ = some (.int .u64 (G t)) := fun t ht => by
        rw [hz.out, Nat.zero_add, hw2.cell t (by omega), hG]
      have hfw : ∀ t, t < d.size → w2.frozen? ⟨g, z + t, none⟩ = false := fun t ht => hw2.frozen _
      have htn : t < b := by omega
      clear hw2 hR2 hG RN
      by_cases hon : o < n
      · by_cases e : t = a + (o)
        · subst e
          go_wp2_with fail
          go_region
          all_goals go_wp2_with fail
          refine ⟨⟨a + (o) + 1, _, _, by go_num, by omega, by omega, (HW2.out.exch (a + (o)) (a + (o)) (by rw [hz.out]; omega) (by rw [hz.out]; omega) (by rw [HG.out]) (by rw [HG.out])).drew, ?_, (HR2.out.keep (HW2.out.ne2 HR2.out) _ _ _ _).drew⟩, by simp [intOf]; omega⟩
          exact Sort.permIn_trans _ _ _ _ _ HP.out (Sort.swp_permIn dk a b (a + (o)) (a + (o)) (by omega) (by omega) (by omega) (by omega) (by omega))
        · go_wp2_with fail
          go_region
          all_goals go_wp2_with fail
          refine ⟨⟨t + 1, _, _, by go_num, by omega, by omega, (HW2.out.exch t (a + (o)) (by rw [hz.out]; omega) (by rw [hz.out]; omega) (by rw [HG.out]) (by rw [HG.out])).drew, ?_, (HR2.out.keep (HW2.out.ne2 HR2.out) _ _ _ _).drew⟩, by simp [intOf]; omega⟩
          exact Sort.permIn_trans _ _ _ _ _ HP.out (Sort.swp_permIn dk a b t (a + (o)) (by omega) (by omega) (by omega) (by omega) (by omega))
      · obtain ⟨o', ho'⟩ : ∃ o', o = o' + n := ⟨o - n, by omega⟩
        subst ho'
        have hon' : o' < n := by omega
        by_cases e : t = a + (o')
        · subst e
          go_wp2_with fail
          go_region
          all_goals go_wp2_with fail
          refine ⟨⟨a + (o') + 1, _, _, by go_num, by omega, by omega, (HW2.out.exch (a + (o')) (a + (o')) (by rw [hz.out]; omega) (by rw [hz.out]; omega) (by rw [HG.out]) (by rw [HG.out])).drew, ?_, (HR2.out.keep (HW2.out.ne2 HR2.out) _ _ _ _).drew⟩, by simp [intOf]; omega⟩
          exact Sort.permIn_trans _ _ _ _ _ HP.out (Sort.swp_permIn dk a b (a + (o')) (a + (o')) (by omega) (by omega) (by omega) (by omega) (by omega))
        · go_wp2_with fail
          go_region
          all_goals go_wp2_with fail
          refine ⟨⟨t + 1, _, _, by go_num, by omega, by omega, (HW2.out.exch t (a + (o')) (by rw [hz.out]; omega) (by rw [hz.out]; omega) (by rw [HG.out]) (by rw [HG.out])).drew, ?_, (HR2.out.keep (HW2.out.ne2 HR2.out) _ _ _ _).drew⟩, by simp [intOf]; omega⟩
          exact Sort.permIn_trans _ _ _ _ _ HP.out (Sort.swp_permIn dk a b t (a + (o')) (by omega) (by omega) (by omega) (by omega) (by omega))
    · go_wp2_with fail
      go_end0
      exact ⟨dk, rfl, HW.out, HP.out⟩
end Go.Proofs.YbulkeycDoor
