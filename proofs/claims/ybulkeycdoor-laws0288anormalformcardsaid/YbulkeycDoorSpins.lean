import Derived.Test.YbulkeycDoorSinv
import Derived.Deep.DeepCutAuto
import Derived.Deep.CutBlock
/- slices.partialInsertionSortOrdered at words of 64 bits. -/
namespace Go.Proofs.YbulkeycDoor
open Go.RowKit
set_option linter.unusedVariables false

theorem scan_go (b i : Nat) (d : Array Int) (h : i < b) (hl : (!Sort.ltInt d[i]! d[i - 1]!) = true) : Sort.scanSorted Sort.ltInt d b i = Sort.scanSorted Sort.ltInt d b (i + 1) := by
  rw [Sort.scanSorted, if_pos]
  rw [hl]
  simpa using h
theorem scan_stop (b i : Nat) (d : Array Int) (h : b ≤ i ∨ (!Sort.ltInt d[i]! d[i - 1]!) = false) : Sort.scanSorted Sort.ltInt d b i = i := by
  rw [Sort.scanSorted, if_neg]
  rcases h with h | h
  · simp; omega
  · rw [h]; simp
theorem sd_stop (j : Nat) (d : Array Int) (h : j = 0 ∨ (!Sort.ltInt d[j]! d[j - 1]!) = true) : Sort.shiftDown Sort.ltInt j d = d := by
  cases j with
  | zero => rfl
  | succ k =>
    rcases h with h | h
    · omega
    · rw [Sort.shiftDown, if_pos (by simp only [Nat.add_sub_cancel] at h; exact h)]
theorem sd_go (j : Nat) (d : Array Int) (h0 : 0 < j) (h : (!Sort.ltInt d[j]! d[j - 1]!) = false) : Sort.shiftDown Sort.ltInt j d = Sort.shiftDown Sort.ltInt (j - 1) (Sort.swp d j (j - 1)) := by
  cases j with
  | zero => omega
  | succ k =>
    rw [Sort.shiftDown, if_neg (by simp only [Nat.add_sub_cancel] at h; rw [h]; simp)]
    rfl
theorem su_stop (b j : Nat) (d : Array Int) (h : b ≤ j ∨ (!Sort.ltInt d[j]! d[j - 1]!) = true) : Sort.shiftUp Sort.ltInt b j d = d := by
  rw [Sort.shiftUp]
  rcases h with h | h
  · rw [if_neg (by omega)]
  · by_cases hj : j < b
    · rw [if_pos hj, if_pos h]
    · rw [if_neg hj]
theorem su_go (b j : Nat) (d : Array Int) (h0 : j < b) (h : (!Sort.ltInt d[j]! d[j - 1]!) = false) : Sort.shiftUp Sort.ltInt b j d = Sort.shiftUp Sort.ltInt b (j + 1) (Sort.swp d j (j - 1)) := by
  rw [Sort.shiftUp, if_pos h0, if_neg (by rw [h]; simp)]
theorem pi_true (a b k i : Nat) (d : Array Int) (h : Sort.scanSorted Sort.ltInt d b i = b) : Sort.partialIns Sort.ltInt a b (k + 1) i d = (d, true) := by
  rw [Sort.partialIns_succ, if_pos h]
theorem pi_false (a b k i : Nat) (d : Array Int) (h : ¬ Sort.scanSorted Sort.ltInt d b i = b) (h2 : b - a < 50) : Sort.partialIns Sort.ltInt a b (k + 1) i d = (d, false) := by
  rw [Sort.partialIns_succ, if_neg h, if_pos h2]
/-- The array behind the shift to the left. -/
def dDown (a i : Nat) (d : Array Int) : Array Int := if i - a ≥ 2 then Sort.shiftDown Sort.ltInt (i - 1) (Sort.swp d i (i - 1)) else Sort.swp d i (i - 1)
/-- .. and behind the shift to the right. -/
def dUp (a b i : Nat) (d : Array Int) : Array Int := if b - i ≥ 2 then Sort.shiftUp Sort.ltInt b (i + 1) (dDown a i d) else dDown a i d
theorem pi_go (a b k i : Nat) (d : Array Int) (h : ¬ Sort.scanSorted Sort.ltInt d b i = b) (h2 : ¬ b - a < 50) : Sort.partialIns Sort.ltInt a b (k + 1) i d = Sort.partialIns Sort.ltInt a b k (Sort.scanSorted Sort.ltInt d b i) (dUp a b (Sort.scanSorted Sort.ltInt d b i) d) := by
  rw [Sort.partialIns_succ, if_neg h, if_neg h2]
  rfl
set_option maxHeartbeats 4000000 in
set_option maxRecDepth 100000 in
theorem pins_z (z g a b : Nat) (d : Array Int) (w0 w : World) (hz : Hid (z = 0)) (hS : Hid (SW g w0 d w)) (hab : a + 12 < b) (hb : b ≤ d.size) (hsz : d.size ≤ 100000) (cap : Nat) :
    Calls Ybad.prog 28 #[.slice (some ⟨g, z, none⟩) d.size cap, .int .i64 a, .int .i64 b] w fun e w' =>
      e = .returned (.bool (Sort.partialInsertionSort Sort.ltInt d a b).2) ∧ SW g w0 (Sort.partialInsertionSort Sort.ltInt d a b).1 w' := by
  go_enter Ybad.func28, Ybad.ntmps28
  go_wp2_with fail
  go_loopw [7, 8] (fun vi vs wr => ∃ (i s : Nat) (dk : Array Int), vi = .int .i64 i ∧ vs = .int .i64 s ∧ a < i ∧ i ≤ b ∧ s ≤ 5 ∧ dk.size = d.size ∧ SW g w0 dk wr ∧
      Sort.partialIns Sort.ltInt a b (5 - s) i dk = Sort.partialInsertionSort Sort.ltInt d a b) (fun _ vs _ => 5 - (intOf vs).toNat)
  case atStart => exact ⟨a + 1, 0, d, by go_num, rfl, by omega, by omega, by omega, rfl, hS.out, rfl⟩
  case round =>
    obtain ⟨i, s, dk, rfl, rfl, hai, hib, hs5, sk, hw, hE⟩ := hrel
    have HW : Hid (SW g w0 dk wr) := hw
    have HE : Hid (Sort.partialIns Sort.ltInt a b (5 - s) i dk = Sort.partialInsertionSort Sort.ltInt d a b) := hE
    obtain ⟨G, hG⟩ : ∃ G : Nat → Int, ∀ t, dk[t]! = G t := ⟨fun t => dk[t]!, fun _ => rfl⟩
    have HG : Hid (∀ t, dk[t]! = G t) := hG
    clear hw hE hG
    by_cases h5 : s < 5
    · obtain ⟨k, hk⟩ : ∃ k, 5 - s = k + 1 := ⟨4 - s, by omega⟩
      have HK : Hid (5 - s = k + 1) := hk
      have HK2 : Hid (5 - (s + 1) = k) := by show _ = _; omega
      clear hk
      have h5i : decide ((s : Int) < 5) = true := by simp; omega
      go_upto_block 2 with fail
      go_cut [7] (fun vi wx => ∃ i' : Nat, vi = .int .i64 i' ∧ a < i' ∧ i' ≤ b ∧ SW g w0 dk wx ∧ Sort.scanSorted Sort.ltInt dk b i = i')
      case first =>
        go_wp2_with fail
        go_loopw [7] (fun vi wr => ∃ i' : Nat, vi = .int .i64 i' ∧ a < i' ∧ i' ≤ b ∧ SW g w0 dk wr ∧ Sort.scanSorted Sort.ltInt dk b i = Sort.scanSorted Sort.ltInt dk b i') (fun vi _ => b - (intOf vi).toNat)
        case atStart => exact ⟨i, rfl, hai, hib, HW.out, rfl⟩
        case round =>
          obtain ⟨i', rfl, hai', hib', hw, hE⟩ := hrel
          have HW2 : Hid (SW g w0 dk wr) := hw
          have HE2 : Hid (Sort.scanSorted Sort.ltInt dk b i = Sort.scanSorted Sort.ltInt dk b i') := hE
          have hcw : ∀ t, t < d.size → wr.cell? ⟨g, z + t, none⟩ = some (.int .u64 (G t)) := fun t ht => by
            rw [hz.out, Nat.zero_add, hw.cell t (by omega), HG.out]
          clear hw hE
          by_cases h1 : i' < b
          · have hd : decide ((i' : Int) < (b : Int)) = true := by simp; omega
            go_wp2_with fail
            go_quiet (first | (go_at_call 29; refine Calls.quiet_of_same (less_any _ _ _)))
            go_wp2_with fail
            · have hq : (!Sort.ltInt (G i') (G (i' - 1))) = true := by assumption
              exact ⟨⟨i' + 1, by go_num, by omega, by omega, HW2.out.drewN _, by rw [HE2.out, scan_go b i' dk h1 (by rw [HG.out, HG.out]; exact hq)]⟩, by simp [intOf]; omega⟩
            · have hq : (!Sort.ltInt (G i') (G (i' - 1))) = false := by assumption
              go_meet
              exact ⟨i', rfl, hai', hib', HW2.out.drewN _, by rw [HE2.out, scan_stop b i' dk (.inr (by rw [HG.out, HG.out]; exact hq))]⟩
          · have hd : decide ((i' : Int) < (b : Int)) = false := by simp; omega
            go_wp2_with fail
            go_quiet (first | (go_at_call 29; refine Calls.quiet_of_same (less_any _ _ _)))
            go_wp2_with fail
            go_meet
            exact ⟨i', rfl, hai', hib', HW2.out.drewN _, by rw [HE2.out, scan_stop b i' dk (.inl (by omega))]⟩
      case rest =>
        obtain ⟨i', rfl, hai', hib', hw, hE⟩ := hcut
        have HW2 : Hid (SW g w0 dk wc) := hw
        have HE2 : Hid (Sort.scanSorted Sort.ltInt dk b i = i') := hE
        have hcw : ∀ t, t < d.size → wc.cell? ⟨g, z + t, none⟩ = some (.int .u64 (G t)) := fun t ht => by
          rw [hz.out, Nat.zero_add, hw.cell t (by omega), HG.out]
        have hfw : ∀ t, t < d.size → wc.frozen? ⟨g, z + t, none⟩ = false := fun t ht => hw.frozen _
        clear hw hE
        by_cases h1 : i' = b
        · have h1b : ((i' : Int) == (b : Int)) = true := by simp; omega
          go_wp2_with fail
          go_ret
          have := HE.out
          rw [HK.out, pi_true a b k i dk (by rw [HE2.out, h1])] at this
          rw [← this]
          exact ⟨rfl, HW2.out⟩
        · have h1b : ((i' : Int) == (b : Int)) = false := by simp; omega
          have hn1 : ¬ Sort.scanSorted Sort.ltInt dk b i = b := by rw [HE2.out]; exact h1
          have HN1 : Hid (¬ Sort.scanSorted Sort.ltInt dk b i = b) := hn1
          clear hn1
          by_cases h50 : b - a < 50
          · have h50b : decide ((b : Int) - a < 50) = true := by simp; omega
            go_wp2_with fail
            go_ret
            have := HE.out
            rw [HK.out, pi_false a b k i dk HN1.out h50] at this
            rw [← this]
            exact ⟨rfl, HW2.out⟩
          · have h50b : decide ((b : Int) - a < 50) = false := by simp; omega
            have HGO : Hid (Sort.partialIns Sort.ltInt a b k i' (dUp a b i' dk) = Sort.partialInsertionSort Sort.ltInt d a b) := by
              show _ = _
              rw [← HE.out, HK.out, pi_go a b k i dk HN1.out h50, HE2.out]
            go_upto_if 61 with (go_region)
            have H1 : Hid (SW g w0 (Sort.swp dk i' (i' - 1)) ((wc.setCell ⟨g, z + i', none⟩ (.int .u64 (G (i' - 1)))).setCell ⟨g, z + (i' - 1), none⟩ (.int .u64 (G i'))).drew) := (HW2.out.exch i' (i' - 1) (by rw [hz.out]; omega) (by rw [hz.out]; omega) (by rw [HG.out]) (by rw [HG.out])).drew
            clear hcw hfw
            generalize ((wc.setCell ⟨g, z + i', none⟩ (.int .u64 (G (i' - 1)))).setCell ⟨g, z + (i' - 1), none⟩ (.int .u64 (G i'))).drew = W1 at H1 ⊢
            go_cut [] (fun wx => SW g w0 (dDown a i' dk) wx ∧ (dDown a i' dk).size = d.size)
            case first =>
              by_cases h2 : 2 ≤ i' - a
              · have h2b : decide (2 ≤ (i' : Int) - a) = true := by simp; omega
                have ed : Hid (dDown a i' dk = Sort.shiftDown Sort.ltInt (i' - 1) (Sort.swp dk i' (i' - 1))) := if_pos h2
                go_wp2_with fail
                go_loopw [9] (fun vj wr => ∃ (j : Nat) (dj : Array Int), vj = .int .i64 j ∧ j ≤ i' - 1 ∧ dj.size = d.size ∧ SW g w0 dj wr ∧ Sort.shiftDown Sort.ltInt j dj = dDown a i' dk) (fun vj _ => (intOf vj).toNat)
                case atStart => exact ⟨i' - 1, _, by congr 1; omega, Nat.le_refl _, by rw [Sort.size_swp, sk], H1.out, ed.out.symm⟩
                case round =>
                  obtain ⟨j, dj, rfl, hj, sj, hw, hE⟩ := hrel
                  have HW3 : Hid (SW g w0 dj wr) := hw
                  have HE3 : Hid (Sort.shiftDown Sort.ltInt j dj = dDown a i' dk) := hE
                  obtain ⟨F, hF⟩ : ∃ F : Nat → Int, ∀ t, dj[t]! = F t := ⟨fun t => dj[t]!, fun _ => rfl⟩
                  have HF : Hid (∀ t, dj[t]! = F t) := hF
                  have hcw : ∀ t, t < d.size → wr.cell? ⟨g, z + t, none⟩ = some (.int .u64 (F t)) := fun t ht => by
                    rw [hz.out, Nat.zero_add, hw.cell t (by omega), hF]
                  have hfw : ∀ t, t < d.size → wr.frozen? ⟨g, z + t, none⟩ = false := fun t ht => hw.frozen _
                  clear hw hE hF
                  by_cases hj0 : 1 ≤ j
                  · have hj0b : decide (1 ≤ (j : Int)) = true := by simp; omega
                    go_wp2_with fail
                    go_quiet (first | (go_at_call 29; refine Calls.quiet_of_same (less_any _ _ _)))
                    go_wp2_with fail
                    · have hq : (!Sort.ltInt (F j) (F (j - 1))) = true := by assumption
                      go_meet
                      rw [← HE3.out, sd_stop j dj (.inr (by rw [HF.out, HF.out]; exact hq))]
                      exact ⟨HW3.out.drewN _, sj⟩
                    · have hq : (!Sort.ltInt (F j) (F (j - 1))) = false := by assumption
                      go_region
                      all_goals go_wp2_with fail
                      have EX := fun q => ((HW3.out.drewN q).exch j (j - 1) (o1 := z + j) (o2 := z + (j - 1)) (x := F (j - 1)) (y := F j) (by rw [hz.out]; omega) (by rw [hz.out]; omega) (by rw [HF.out]) (by rw [HF.out]))
                      exact ⟨⟨j - 1, Sort.swp dj j (j - 1), by congr 1; omega, by omega, by rw [Sort.size_swp, sj], EX _, by rw [← HE3.out, sd_go j dj (by omega) (by rw [HF.out, HF.out]; exact hq)]⟩, by simp [intOf]; omega⟩
                  · have hj0b : decide (1 ≤ (j : Int)) = false := by simp; omega
                    go_wp2_with fail
                    go_meet
                    rw [← HE3.out, sd_stop j dj (.inl (by omega))]
                    exact ⟨HW3.out, sj⟩
              · have h2b : decide (2 ≤ (i' : Int) - a) = false := by simp; omega
                have ed : dDown a i' dk = Sort.swp dk i' (i' - 1) := if_neg h2
                go_wp2_with fail
                go_meet
                rw [ed]
                exact ⟨H1.out, by rw [Sort.size_swp, sk]⟩
            case rest =>
              obtain ⟨hwd, szd⟩ := hcut
              have HWD : Hid (SW g w0 (dDown a i' dk) wc) := hwd
              have SZD : Hid ((dDown a i' dk).size = d.size) := szd
              clear hwd szd H1 W1
              by_cases h2 : 2 ≤ b - i'
              · have h2b : decide (2 ≤ (b : Int) - i') = true := by simp; omega
                have ed : Hid (dUp a b i' dk = Sort.shiftUp Sort.ltInt b (i' + 1) (dDown a i' dk)) := if_pos h2
                go_wp2_with fail
                go_loopw [10] (fun vj wr => ∃ (j : Nat) (dj : Array Int), vj = .int .i64 j ∧ i' + 1 ≤ j ∧ j ≤ b ∧ dj.size = d.size ∧ SW g w0 dj wr ∧ Sort.shiftUp Sort.ltInt b j dj = dUp a b i' dk) (fun vj _ => b - (intOf vj).toNat)
                case atStart => exact ⟨i' + 1, _, by go_num, Nat.le_refl _, by omega, SZD.out, HWD.out, ed.out.symm⟩
                case round =>
                  obtain ⟨j, dj, rfl, hj, hjb, sj, hw, hE⟩ := hrel
                  have HW3 : Hid (SW g w0 dj wr) := hw
                  have HE3 : Hid (Sort.shiftUp Sort.ltInt b j dj = dUp a b i' dk) := hE
                  obtain ⟨F, hF⟩ : ∃ F : Nat → Int, ∀ t, dj[t]! = F t := ⟨fun t => dj[t]!, fun _ => rfl⟩
                  have HF : Hid (∀ t, dj[t]! = F t) := hF
                  have hcw : ∀ t, t < d.size → wr.cell? ⟨g, z + t, none⟩ = some (.int .u64 (F t)) := fun t ht => by
                    rw [hz.out, Nat.zero_add, hw.cell t (by omega), hF]
                  have hfw : ∀ t, t < d.size → wr.frozen? ⟨g, z + t, none⟩ = false := fun t ht => hw.frozen _
                  clear hw hE hF
                  by_cases hj0 : j < b
                  · have hj0b : decide ((j : Int) < b) = true := by simp; omega
                    go_wp2_with fail
                    go_quiet (first | (go_at_call 29; refine Calls.quiet_of_same (less_any _ _ _)))
                    go_wp2_with fail
                    · have hq : (!Sort.ltInt (F j) (F (j - 1))) = true := by assumption
                      have EN : SW g w0 (dUp a b i' dk) wr ∧ (dUp a b i' dk).size = d.size := by
                        rw [← HE3.out, su_stop b j dj (.inr (by rw [HF.out, HF.out]; exact hq))]
                        exact ⟨HW3.out, sj⟩
                      exact ⟨⟨i', s + 1, dUp a b i' dk, rfl, by go_num, hai', hib', by omega, EN.2, EN.1.drewN _, by rw [HK2.out]; exact HGO.out⟩, by simp [intOf]; omega⟩
                    · have hq : (!Sort.ltInt (F j) (F (j - 1))) = false := by assumption
                      go_region
                      all_goals go_wp2_with fail
                      have EX := fun q => ((HW3.out.drewN q).exch j (j - 1) (o1 := z + j) (o2 := z + (j - 1)) (x := F (j - 1)) (y := F j) (by rw [hz.out]; omega) (by rw [hz.out]; omega) (by rw [HF.out]) (by rw [HF.out]))
                      exact ⟨⟨j + 1, Sort.swp dj j (j - 1), by go_num, by omega, by omega, by rw [Sort.size_swp, sj], EX _, by rw [← HE3.out, su_go b j dj hj0 (by rw [HF.out, HF.out]; exact hq)]⟩, by simp [intOf]; omega⟩
                  · have hj0b : decide ((j : Int) < b) = false := by simp; omega
                    have EN : SW g w0 (dUp a b i' dk) wr ∧ (dUp a b i' dk).size = d.size := by
                      rw [← HE3.out, su_stop b j dj (.inl (by omega))]
                      exact ⟨HW3.out, sj⟩
                    go_wp2_with fail
                    exact ⟨⟨i', s + 1, dUp a b i' dk, rfl, by go_num, hai', hib', by omega, EN.2, EN.1, by rw [HK2.out]; exact HGO.out⟩, by simp [intOf]; omega⟩
              · have h2b : decide (2 ≤ (b : Int) - i') = false := by simp; omega
                have ed : dUp a b i' dk = dDown a i' dk := if_neg h2
                go_wp2_with fail
                exact ⟨⟨i', s + 1, dUp a b i' dk, rfl, by go_num, hai', hib', by omega, by rw [ed]; exact SZD.out, by rw [ed]; exact HWD.out, by rw [HK2.out]; exact HGO.out⟩, by simp [intOf]; omega⟩
    · have h5i : decide ((s : Int) < 5) = false := by simp; omega
      go_wp2_with fail
      go_ret
      have h0 : 5 - s = 0 := by omega
      have := HE.out
      rw [h0] at this
      rw [← this]
      exact ⟨rfl, HW.out⟩
end Go.Proofs.YbulkeycDoor
