import Derived.Test.YbulkeycDoorSpiv
/- slices.choosePivotOrdered at words of 64 bits. -/
namespace Go.Proofs.YbulkeycDoor
open Go.RowKit
set_option linter.unusedVariables false

set_option maxHeartbeats 1000000 in
set_option maxRecDepth 100000 in
theorem piv_z (z g a b : Nat) (d : Array Int) (w0 w : World) (hz : Hid (z = 0)) (hS : Hid (SW g w0 d w)) (hab : a + 12 < b) (hb : b ≤ d.size) (hsz : d.size ≤ 100000) (cap : Nat) :
    Calls Ybad.prog 26 #[.slice (some ⟨g, z, none⟩) d.size cap, .int .i64 a, .int .i64 b] w fun e w' =>
      ∃ (p h : Nat), e = .returned (.tuple #[.int .i64 p, .int .i64 h]) ∧ a ≤ p ∧ p < b ∧ SW g w0 d w' := by
  have ei : ((a + (b - a) / 4 * 1 : Nat) : Int) = (a : Int) + ((b : Int) - a) / 4 := by omega
  have ej : ((a + (b - a) / 4 * 2 : Nat) : Int) = (a : Int) + ((b : Int) - a) / 4 * 2 := by omega
  have ek : ((a + (b - a) / 4 * 3 : Nat) : Int) = (a : Int) + ((b : Int) - a) / 4 * 3 := by omega
  have S0 : Hid (SW g w0 d (w.alloc (.cells #[.int .i64 0] 3))) := hS.out.alloc _
  have C0 : Hid (Cnt (w.alloc (.cells #[.int .i64 0] 3)) w.heap.size 0) := heap_alloc_new w _
  have hc : Hid (w0.heap.size ≤ w.heap.size) := hS.out.size
  by_cases h50 : 50 ≤ b - a
  · have I1 := adj_any z g _ w.heap.size 0 cap d w0 _ hz S0 C0 hc (by omega : 0 < a + (b - a) / 4 * 1) (by omega) (by omega) hsz
    have I2 := fun w1 s (h1 : Hid (SW g w0 d w1)) (h2 : Hid (Cnt w1 w.heap.size s)) (h3 : s ≤ 50) => adj_any z g _ w.heap.size s cap d w0 w1 hz h1 h2 hc (by omega : 0 < a + (b - a) / 4 * 2) (by omega) h3 hsz
    have I3 := fun w1 s (h1 : Hid (SW g w0 d w1)) (h2 : Hid (Cnt w1 w.heap.size s)) (h3 : s ≤ 50) => adj_any z g _ w.heap.size s cap d w0 w1 hz h1 h2 hc (by omega : 0 < a + (b - a) / 4 * 3) (by omega) h3 hsz
    rw [ei] at I1
    rw [ej] at I2
    rw [ek] at I3
    have J1 : Hid (Calls Ybad.prog 37 _ _ _) := I1
    have J2 : Hid (∀ w1 s (h1 : Hid (SW g w0 d w1)) (h2 : Hid (Cnt w1 w.heap.size s)) (h3 : s ≤ 50), Calls Ybad.prog 37 _ _ _) := I2
    have J3 : Hid (∀ w1 s (h1 : Hid (SW g w0 d w1)) (h2 : Hid (Cnt w1 w.heap.size s)) (h3 : s ≤ 50), Calls Ybad.prog 37 _ _ _) := I3
    clear I1 I2 I3 ei ej ek
    go_enter Ybad.func26, Ybad.ntmps26
    go_wp2_with fail
    refine J1.out.mono ?_
    rintro e w1 ⟨x1, s1, rfl, h1, hs1, hS1, hC1⟩
    have HS1 : Hid (SW g w0 d w1) := hS1
    have HC1 : Hid (Cnt w1 w.heap.size s1) := hC1
    clear hS1 hC1
    go_wp2_with fail
    refine (J2.out w1 s1 HS1 HC1 (by omega)).mono ?_
    rintro e w2 ⟨x2, s2, rfl, h2, hs2, hS2, hC2⟩
    have HS2 : Hid (SW g w0 d w2) := hS2
    have HC2 : Hid (Cnt w2 w.heap.size s2) := hC2
    clear hS2 hC2
    go_wp2_with fail
    refine (J3.out w2 s2 HS2 HC2 (by omega)).mono ?_
    rintro e w3 ⟨x3, s3, rfl, h3, hs3, hS3, hC3⟩
    have HS3 : Hid (SW g w0 d w3) := hS3
    have HC3 : Hid (Cnt w3 w.heap.size s3) := hC3
    clear hS3 hC3
    go_wp2_with fail
    refine (med_any z g x1 x2 x3 w.heap.size s3 cap d w0 w3 hz HS3 HC3 hc (by omega) (by omega) (by omega) (by omega) hsz).mono ?_
    rintro e w9 ⟨x9, s9, rfl, h9, hs9, hS9, hC9⟩
    have HS9 : Hid (SW g w0 d w9) := hS9
    have HC9 : Hid (Cnt w9 w.heap.size s9) := hC9
    have hm : a ≤ x9 ∧ x9 < b := by omega
    have cc := HC9.out.cell
    clear hS9 hC9
    by_cases c0 : s9 = 0
    · subst c0
      go_wp2_with fail
      go_ret2
      exact ⟨x9, _, rfl, hm.1, hm.2, HS9.out⟩
    · have d0 : ((s9 : Int) == 0) = false := by simp; omega
      by_cases c1 : s9 = 12
      · subst c1
        go_wp2_with fail
        go_ret2
        exact ⟨x9, _, rfl, hm.1, hm.2, HS9.out⟩
      · have d1 : ((s9 : Int) == 12) = false := by simp; omega
        go_wp2_with fail
        go_ret2
        exact ⟨x9, _, rfl, hm.1, hm.2, HS9.out⟩
  · have I1 := med_any z g (a + (b - a) / 4 * 1) (a + (b - a) / 4 * 2) (a + (b - a) / 4 * 3) w.heap.size 0 cap d w0 _ hz S0 C0 hc (by omega) (by omega) (by omega) (by omega) hsz
    rw [ei, ej, ek] at I1
    have J1 : Hid (Calls Ybad.prog 38 _ _ _) := I1
    clear I1 ei ej ek
    go_enter Ybad.func26, Ybad.ntmps26
    go_wp2_with fail
    refine J1.out.mono ?_
    rintro e w9 ⟨x9, s9, rfl, h9, hs9, hS9, hC9⟩
    have HS9 : Hid (SW g w0 d w9) := hS9
    have HC9 : Hid (Cnt w9 w.heap.size s9) := hC9
    have hm : a ≤ x9 ∧ x9 < b := by omega
    have cc := HC9.out.cell
    clear hS9 hC9
    by_cases c0 : s9 = 0
    · subst c0
      go_wp2_with fail
      go_ret2
      exact ⟨x9, _, rfl, hm.1, hm.2, HS9.out⟩
    · have d0 : ((s9 : Int) == 0) = false := by simp; omega
      by_cases c1 : s9 = 12
      · subst c1
        go_wp2_with fail
        go_ret2
        exact ⟨x9, _, rfl, hm.1, hm.2, HS9.out⟩
      · have d1 : ((s9 : Int) == 12) = false := by simp; omega
        go_wp2_with fail
        go_ret2
        exact ⟨x9, _, rfl, hm.1, hm.2, HS9.out⟩
end Go.Proofs.YbulkeycDoor
