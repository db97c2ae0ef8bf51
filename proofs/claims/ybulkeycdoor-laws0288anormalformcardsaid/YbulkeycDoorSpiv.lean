import Derived.Test.YbulkeycDoorSinv
import Derived.Deep.DeepCutAuto
import Derived.Deep.CutBlock
/- slices.order2Ordered, medianOrdered, medianAdjacentOrdered, choosePivotOrdered, reverseRangeOrdered at words of 64 bits. -/
namespace Go.Proofs.YbulkeycDoor
open Go.RowKit
set_option linter.unusedVariables false

/-- The counter of swaps. -/
def Cnt (w : World) (c s : Nat) : Prop := w.heap[c]? = some (.cells #[.int .i64 (s : Int)] 3 (0, 0))
theorem Cnt.cell {w : World} {c s : Nat} (h : Cnt w c s) : w.cell? ⟨c, 0, none⟩ = some (.int .i64 s) := by unfold Cnt at h; simp [World.cell?, h]
theorem Cnt.frozen {w : World} {c s : Nat} (h : Cnt w c s) : w.frozen? ⟨c, 0, none⟩ = false := by unfold Cnt at h; simp [World.frozen?, h]
theorem Cnt.drewN {w : World} {c s : Nat} (h : Cnt w c s) (n : Nat) : Cnt (w.drewN n) c s := h
theorem Cnt.set {w : World} {c s : Nat} (h : Cnt w c s) (s' : Nat) : Cnt (w.setCell ⟨c, 0, none⟩ (.int .i64 (s' : Int))) c s' := by
  unfold Cnt at *
  rw [heap_setCell_same w c 0 _ 3 _ h]
  rfl
theorem Cnt.ne {w w0 : World} {c s g : Nat} {d : Array Int} (h : Cnt w c s) (hS : SW g w0 d w) : g ≠ c := by
  rintro rfl
  unfold Cnt at h
  rw [hS.row] at h
  simp at h

theorem ord_any (z g a b c s cap : Nat) (d : Array Int) (w0 w : World) (hz : Hid (z = 0)) (hS : Hid (SW g w0 d w)) (hC : Hid (Cnt w c s)) (hc : Hid (w0.heap.size ≤ c)) (ha : a < d.size) (hb : b < d.size) (hs : s ≤ 100) (hsz : d.size ≤ 100000) :
    Calls Ybad.prog 40 #[.slice (some ⟨g, z, none⟩) d.size cap, .int .i64 a, .int .i64 b, .pointer (some ⟨c, 0, none⟩)] w fun e w' =>
      ∃ (x y s' : Nat), e = .returned (.tuple #[.int .i64 x, .int .i64 y]) ∧ ((x = a ∧ y = b) ∨ (x = b ∧ y = a)) ∧ s' ≤ s + 1 ∧ SW g w0 d w' ∧ Cnt w' c s' := by
  obtain ⟨G, hG⟩ : ∃ G : Nat → Int, ∀ t, d[t]! = G t := ⟨fun t => d[t]!, fun _ => rfl⟩
  have hcw : ∀ t, t < d.size → w.cell? ⟨g, z + t, none⟩ = some (.int .u64 (G t)) := fun t ht => by
    rw [hz.out, Nat.zero_add, hS.out.cell t (by omega), hG]
  have cc := hC.out.cell
  have cf := hC.out.frozen
  clear hG
  go_enter Ybad.func40, Ybad.ntmps40
  go_wp2_with fail
  go_quiet (first | (go_at_call 29; refine Calls.quiet_of_same (less_any _ _ _)))
  go_wp2_with fail
  · go_ret2
    refine ⟨b, a, s + 1, rfl, .inr ⟨rfl, rfl⟩, Nat.le_refl _, ?_, ?_⟩
    · exact (hS.out.drewN _).other c 0 _ hc.out (hC.out.ne hS.out)
    · exact (hC.out.drewN _).set (s + 1)
  · go_ret2
    exact ⟨a, b, s, rfl, .inl ⟨rfl, rfl⟩, by omega, hS.out.drewN _, hC.out.drewN _⟩

theorem med_any (z g a b c cn s cap : Nat) (d : Array Int) (w0 w : World) (hz : Hid (z = 0)) (hS : Hid (SW g w0 d w)) (hC : Hid (Cnt w cn s)) (hc : Hid (w0.heap.size ≤ cn)) (ha : a < d.size) (hb : b < d.size) (hcd : c < d.size) (hs : s ≤ 50) (hsz : d.size ≤ 100000) :
    Calls Ybad.prog 38 #[.slice (some ⟨g, z, none⟩) d.size cap, .int .i64 a, .int .i64 b, .int .i64 c, .pointer (some ⟨cn, 0, none⟩)] w fun e w' =>
      ∃ (x s' : Nat), e = .returned (.int .i64 x) ∧ (x = a ∨ x = b ∨ x = c) ∧ s' ≤ s + 3 ∧ SW g w0 d w' ∧ Cnt w' cn s' := by
  go_enter Ybad.func38, Ybad.ntmps38
  go_wp2_with fail
  refine (ord_any z g a b cn s cap d w0 w hz hS hC hc ha hb (by omega) hsz).mono ?_
  rintro e w1 ⟨x1, y1, s1, rfl, h1, hs1, hS1, hC1⟩
  have HS1 : Hid (SW g w0 d w1) := hS1
  have HC1 : Hid (Cnt w1 cn s1) := hC1
  have H1 : Hid ((x1 = a ∧ y1 = b) ∨ (x1 = b ∧ y1 = a)) := h1
  have b1 : y1 < d.size := by omega
  have b1' : x1 < d.size := by omega
  clear hS1 hC1 h1
  go_wp2_with fail
  refine (ord_any z g y1 c cn s1 cap d w0 w1 hz HS1 HC1 hc b1 hcd (by omega) hsz).mono ?_
  rintro e w2 ⟨x2, y2, s2, rfl, h2, hs2, hS2, hC2⟩
  have HS2 : Hid (SW g w0 d w2) := hS2
  have HC2 : Hid (Cnt w2 cn s2) := hC2
  have H2 : Hid ((x2 = y1 ∧ y2 = c) ∨ (x2 = c ∧ y2 = y1)) := h2
  have b2 : x2 < d.size := by omega
  clear hS2 hC2 h2
  go_wp2_with fail
  refine (ord_any z g x1 x2 cn s2 cap d w0 w2 hz HS2 HC2 hc b1' b2 (by omega) hsz).mono ?_
  rintro e w3 ⟨x3, y3, s3, rfl, h3, hs3, hS3, hC3⟩
  have H3 : Hid ((x3 = x1 ∧ y3 = x2) ∨ (x3 = x2 ∧ y3 = x1)) := h3
  clear h3
  go_wp2_with fail
  go_ret
  refine ⟨y3, s3, rfl, ?_, by omega, hS3, hC3⟩
  have := H1.out
  have := H2.out
  have := H3.out
  omega

theorem adj_any (z g a cn s cap : Nat) (d : Array Int) (w0 w : World) (hz : Hid (z = 0)) (hS : Hid (SW g w0 d w)) (hC : Hid (Cnt w cn s)) (hc : Hid (w0.heap.size ≤ cn)) (ha : 0 < a) (hb : a + 1 < d.size) (hs : s ≤ 50) (hsz : d.size ≤ 100000) :
    Calls Ybad.prog 37 #[.slice (some ⟨g, z, none⟩) d.size cap, .int .i64 a, .pointer (some ⟨cn, 0, none⟩)] w fun e w' =>
      ∃ (x s' : Nat), e = .returned (.int .i64 x) ∧ (a - 1 ≤ x ∧ x ≤ a + 1) ∧ s' ≤ s + 3 ∧ SW g w0 d w' ∧ Cnt w' cn s' := by
  have I := med_any z g (a - 1) a (a + 1) cn s cap d w0 w hz hS hC hc (by omega) (by omega) hb hs hsz
  have e1 : ((a - 1 : Nat) : Int) = (a : Int) - 1 := by omega
  have e2 : ((a + 1 : Nat) : Int) = (a : Int) + 1 := by omega
  rw [e1, e2] at I
  have I' : Hid (Calls Ybad.prog 38 _ _ _) := I
  clear I e1 e2
  go_enter Ybad.func37, Ybad.ntmps37
  go_wp2_with fail
  refine I'.out.mono ?_
  rintro e w3 ⟨x3, s3, rfl, h3, hs3, hS3, hC3⟩
  go_wp2_with fail
  go_ret
  exact ⟨x3, s3, rfl, by omega, hs3, hS3, hC3⟩

set_option maxHeartbeats 1000000 in
theorem rev_z (z g a b : Nat) (d : Array Int) (w0 w : World) (hz : Hid (z = 0)) (hS : Hid (SW g w0 d w)) (hab : a < b) (hb : b ≤ d.size) (hsz : d.size ≤ 100000) (cap : Nat) :
    Calls Ybad.prog 27 #[.slice (some ⟨g, z, none⟩) d.size cap, .int .i64 a, .int .i64 b] w fun e w' =>
      ∃ d' : Array Int, e = .returned (.tuple #[]) ∧ SW g w0 d' w' ∧ Sort.PermIn a b d d' := by
  go_enter Ybad.func27, Ybad.ntmps27
  go_wp2_with fail
  go_loopw [6, 7] (fun vi vj wr => ∃ (i j : Nat) (dk : Array Int), vi = .int .i64 i ∧ vj = .int .i64 j ∧ a ≤ i ∧ j < b ∧ SW g w0 dk wr ∧ Sort.PermIn a b d dk) (fun vi vj _ => (intOf vj).toNat - (intOf vi).toNat)
  case atStart => exact ⟨a, b - 1, d, by go_num, by congr 1; omega, Nat.le_refl _, by omega, hS.out, Sort.permIn_refl _ _ _⟩
  case round =>
    obtain ⟨i, j, dk, rfl, rfl, hai, hjb, hw, hP⟩ := hrel
    have HW : Hid (SW g w0 dk wr) := hw
    have HP : Hid (Sort.PermIn a b d dk) := hP
    have sk : dk.size = d.size := hP.1
    obtain ⟨G, hG⟩ : ∃ G : Nat → Int, ∀ t, dk[t]! = G t := ⟨fun t => dk[t]!, fun _ => rfl⟩
    have HG : Hid (∀ t, dk[t]! = G t) := hG
    have hcw : ∀ t, t < d.size → wr.cell? ⟨g, z + t, none⟩ = some (.int .u64 (G t)) := fun t ht => by
      rw [hz.out, Nat.zero_add, hw.cell t (by omega), hG]
    have hfw : ∀ t, t < d.size → wr.frozen? ⟨g, z + t, none⟩ = false := fun t ht => hw.frozen _
    clear hw hP hG
    by_cases hij : i < j
    · go_wp2_with fail
      go_region
      all_goals go_wp2_with fail
      refine ⟨⟨i + 1, j - 1, _, by go_num, by congr 1; omega, by omega, by omega, (HW.out.exch i j (by rw [hz.out]; omega) (by rw [hz.out]; omega) (by rw [HG.out]) (by rw [HG.out])).drew, ?_⟩, by simp [intOf]; omega⟩
      exact Sort.permIn_trans _ _ _ _ _ HP.out (Sort.swp_permIn dk a b i j hai (by omega) (by omega) hjb (by omega))
    · go_wp2_with fail
      go_end0
      exact ⟨dk, rfl, HW.out, HP.out⟩
end Go.Proofs.YbulkeycDoor
