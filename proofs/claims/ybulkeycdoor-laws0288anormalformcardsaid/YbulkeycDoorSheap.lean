import Derived.Test.YbulkeycDoorSsift
/- slices.heapSortOrdered at words of 64 bits. -/
namespace Go.Proofs.YbulkeycDoor
open Go.RowKit
set_option linter.unusedVariables false

set_option maxHeartbeats 1000000 in
theorem heap_z (z g a b : Nat) (d : Array Int) (w0 w : World) (hz : Hid (z = 0)) (hS : Hid (SW g w0 d w)) (hab : a < b) (hb : b ≤ d.size) (hsz : d.size ≤ 100000) (cap : Nat) :
    Calls Ybad.prog 24 #[.slice (some ⟨g, z, none⟩) d.size cap, .int .i64 a, .int .i64 b] w fun e w' =>
      e = .returned (.tuple #[]) ∧ SW g w0 (Sort.heapSort Sort.ltInt d a b) w' := by
  go_enter Ybad.func24, Ybad.ntmps24
  go_wp2_with fail
  go_loopw [9] (fun vi wr => ∃ (k : Nat) (dk : Array Int), vi = .int .i64 ((k : Int) - 1) ∧ k ≤ (b - a - 1) / 2 + 1 ∧ dk.size = d.size ∧ SW g w0 dk wr ∧
      Sort.heapBuild Sort.ltInt (b - a) a k dk = Sort.heapBuild Sort.ltInt (b - a) a ((b - a - 1) / 2 + 1) d) (fun vi _ => (intOf vi + 1).toNat)
  case atStart => exact ⟨(b - a - 1) / 2 + 1, d, by congr 1; omega, Nat.le_refl _, rfl, hS.out, rfl⟩
  case round =>
    obtain ⟨k, dk, rfl, hk, hsk, hw, hO⟩ := hrel
    have HW : Hid (SW g w0 dk wr) := hw
    have HO : Hid (Sort.heapBuild Sort.ltInt (b - a) a k dk = Sort.heapBuild Sort.ltInt (b - a) a ((b - a - 1) / 2 + 1) d) := hO
    clear hw hO
    by_cases hk0 : k = 0
    · subst hk0
      go_wp2_with fail
      go_loopw [10] (fun vi wr => ∃ (k : Nat) (dk : Array Int), vi = .int .i64 ((k : Int) - 1) ∧ k ≤ b - a ∧ dk.size = d.size ∧ SW g w0 dk wr ∧
          Sort.heapPop Sort.ltInt a k dk = Sort.heapSort Sort.ltInt d a b) (fun vi _ => (intOf vi + 1).toNat)
      case atStart =>
        refine ⟨b - a, dk, by congr 1; omega, Nat.le_refl _, hsk, HW.out, ?_⟩
        unfold Sort.heapSort
        rw [← HO.out]
        rfl
      case round =>
        obtain ⟨k, dj, rfl, hk, hsj, hw, hO⟩ := hrel
        have HW2 : Hid (SW g w0 dj wr) := hw
        have HO2 : Hid (Sort.heapPop Sort.ltInt a k dj = Sort.heapSort Sort.ltInt d a b) := hO
        clear hw hO
        by_cases hk0 : k = 0
        · subst hk0
          go_wp2_with fail
          go_end0
          refine ⟨rfl, ?_⟩
          rw [← HO2.out]
          exact HW2.out
        · obtain ⟨j, rfl⟩ : ∃ j, k = j + 1 := ⟨k - 1, by omega⟩
          obtain ⟨G, hG⟩ : ∃ G : Nat → Int, ∀ t, dj[t]! = G t := ⟨fun t => dj[t]!, fun _ => rfl⟩
          have hcw : ∀ t, t < d.size → wr.cell? ⟨g, z + t, none⟩ = some (.int .u64 (G t)) := fun t ht => by
            rw [hz.out, Nat.zero_add, HW2.out.cell t (by omega), hG]
          have hfw : ∀ t, t < d.size → wr.frozen? ⟨g, z + t, none⟩ = false := fun t ht => HW2.out.frozen _
          have HG : Hid (∀ t, dj[t]! = G t) := hG
          clear hG
          by_cases hj0 : j = 0
          · subst hj0
            go_wp2_with fail
            go_region
            all_goals go_wp2_with fail
            have HS := fun w1 (h1 : SW g w0 (Sort.swp dj a (a + 0)) w1) => sift_z z g 0 0 a (Sort.swp dj a (a + 0)) w0 w1 hz h1 (by rw [Sort.size_swp]; omega) (Nat.zero_le _) (by rw [Sort.size_swp]; omega) cap
            rw [Sort.size_swp, hsj] at HS
            refine (HS _ ?_).mono ?_
            · first
              | exact (HW2.out.drewN _).exch a (a + 0) (by rw [hz.out]; omega) (by rw [hz.out]; omega) (by rw [HG.out]; try rfl) (by rw [HG.out])
              | exact (HW2.out.exch a (a + 0) (by rw [hz.out]; omega) (by rw [hz.out]; omega) (by rw [HG.out]; try rfl) (by rw [HG.out])).drewN _
              | exact (HW2.out.exch a (a + 0) (by rw [hz.out]; omega) (by rw [hz.out]; omega) (by rw [HG.out]; try rfl) (by rw [HG.out])).drew
            rintro e w'' ⟨rfl, hw''⟩
            have HW3 : Hid (SW g w0 (Sort.siftDown Sort.ltInt 0 a 0 (Sort.swp dj a (a + 0))) w'') := hw''
            clear hw'' HS
            go_wp2_with fail
            go_roundw
            case rel =>
              (repeat apply Exists.intro)
              refine ⟨⟨0, _, ?_, by omega, ?_, HW3.out, ?_⟩, rfl⟩
              · congr 1
              · rw [sift_size 0 a 0 _ _ (by omega), Sort.size_swp, hsj]
              · rw [← HO2.out]
                rfl
            case measure => simp [intOf]; try omega
          · have hj1 : 0 < j := by omega
            go_wp2_with fail
            go_region
            all_goals go_wp2_with fail
            have HS := fun w1 (h1 : SW g w0 (Sort.swp dj a (a + j)) w1) => sift_z z g 0 j a (Sort.swp dj a (a + j)) w0 w1 hz h1 (by rw [Sort.size_swp]; omega) (Nat.zero_le _) (by rw [Sort.size_swp]; omega) cap
            rw [Sort.size_swp, hsj] at HS
            refine (HS _ ?_).mono ?_
            · first
              | exact (HW2.out.drewN _).exch a (a + j) (by rw [hz.out]; omega) (by rw [hz.out]; omega) (by rw [HG.out]; try rfl) (by rw [HG.out])
              | exact (HW2.out.exch a (a + j) (by rw [hz.out]; omega) (by rw [hz.out]; omega) (by rw [HG.out]; try rfl) (by rw [HG.out])).drewN _
              | exact (HW2.out.exch a (a + j) (by rw [hz.out]; omega) (by rw [hz.out]; omega) (by rw [HG.out]; try rfl) (by rw [HG.out])).drew
            rintro e w'' ⟨rfl, hw''⟩
            have HW3 : Hid (SW g w0 (Sort.siftDown Sort.ltInt j a 0 (Sort.swp dj a (a + j))) w'') := hw''
            clear hw'' HS
            go_wp2_with fail
            go_roundw
            case rel =>
              (repeat apply Exists.intro)
              refine ⟨⟨j, _, ?_, by omega, ?_, HW3.out, ?_⟩, rfl⟩
              · congr 1
              · rw [sift_size j a j _ _ (by omega), Sort.size_swp, hsj]
              · rw [← HO2.out]
                rfl
            case measure => simp [intOf]; try omega
    · obtain ⟨j, rfl⟩ : ∃ j, k = j + 1 := ⟨k - 1, by omega⟩
      have HS := sift_z z g j (b - a) a dk w0 wr hz HW (by omega) (by omega) (by omega) cap
      have hba : ((b - a : Nat) : Int) = (b : Int) - a := by omega
      rw [hba, hsk] at HS
      have HS' : Hid (Calls Ybad.prog 34 _ _ _) := HS
      clear HS hba
      go_wp2_with fail
      refine HS'.out.mono ?_
      rintro e w'' ⟨rfl, hw''⟩
      have HW3 : Hid (SW g w0 (Sort.siftDown Sort.ltInt (b - a) a j dk) w'') := hw''
      clear hw'' HS'
      go_wp2_with fail
      go_roundw
      case rel =>
        refine ⟨j, _, by congr 1, by omega, ?_, HW3.out, ?_⟩
        · rw [sift_size (b - a) a (b - a) _ _ (by omega), hsk]
        · rw [← HO.out]
          rfl
      case measure => simp [intOf]
end Go.Proofs.YbulkeycDoor
