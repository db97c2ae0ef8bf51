import Derived.Test.YbulkeycDoorSins
/- slices.siftDownOrdered at words of 64 bits. -/
namespace Go.Proofs.YbulkeycDoor
open Go.RowKit
set_option linter.unusedVariables false

theorem SW.exch {g : Nat} {w0 w : World} {d : Array Int} (h : SW g w0 d w) {o1 o2 : Nat} (i j : Nat) {x y : Int} (e1 : o1 = i) (e2 : o2 = j) (ex : x = d[j]!) (ey : y = d[i]!) :
    SW g w0 (Sort.swp d i j) ((w.setCell ⟨g, o1, none⟩ (.int .u64 x)).setCell ⟨g, o2, none⟩ (.int .u64 y)) := by
  subst e1 e2 ex ey
  exact h.swp _ _

theorem sift_stop (hi first r : Nat) (d : Array Int) (h : hi ≤ 2 * r + 1) : Sort.siftDown Sort.ltInt hi first r d = d := by
  rw [Sort.siftDown, dif_pos (by omega)]
theorem sift_right (hi first r : Nat) (d : Array Int) (h : 2 * r + 1 + 1 < hi) (hl : Sort.ltInt d[first + (2 * r + 1)]! d[first + (2 * r + 1) + 1]! = true) :
    Sort.siftDown Sort.ltInt hi first r d = if Sort.ltInt d[first + r]! d[first + (2 * r + 2)]! = true then Sort.siftDown Sort.ltInt hi first (2 * r + 2) (Sort.swp d (first + r) (first + (2 * r + 2))) else d := by
  rw [Sort.siftDown, dif_neg (by omega), if_pos (by simp [hl]; omega)]
  by_cases h2 : Sort.ltInt d[first + r]! d[first + (2 * r + 2)]! = true
  · rw [if_neg (by simp [h2]), dif_pos (by omega), if_pos h2]
  · rw [if_pos (by simp [h2]), if_neg h2]
theorem sift_left (hi first r : Nat) (d : Array Int) (h : 2 * r + 1 < hi) (hl : hi ≤ 2 * r + 1 + 1 ∨ Sort.ltInt d[first + (2 * r + 1)]! d[first + (2 * r + 1) + 1]! = false) :
    Sort.siftDown Sort.ltInt hi first r d = if Sort.ltInt d[first + r]! d[first + (2 * r + 1)]! = true then Sort.siftDown Sort.ltInt hi first (2 * r + 1) (Sort.swp d (first + r) (first + (2 * r + 1))) else d := by
  rw [Sort.siftDown, dif_neg (by omega), if_neg (by
    rcases hl with hl | hl
    · simp; omega
    · simp [hl])]
  by_cases h2 : Sort.ltInt d[first + r]! d[first + (2 * r + 1)]! = true
  · rw [if_neg (by simp [h2]), if_pos h2]
  · rw [if_pos (by simp [h2]), if_neg h2]

set_option maxHeartbeats 1000000 in
theorem sift_z (z g lo hi first : Nat) (d : Array Int) (w0 w : World) (hz : Hid (z = 0)) (hS : Hid (SW g w0 d w)) (hf : first + hi ≤ d.size) (hlo : lo ≤ d.size) (hsz : d.size ≤ 100000) (cap : Nat) :
    Calls Ybad.prog 34 #[.slice (some ⟨g, z, none⟩) d.size cap, .int .i64 lo, .int .i64 hi, .int .i64 first] w fun e w' =>
      e = .returned (.tuple #[]) ∧ SW g w0 (Sort.siftDown Sort.ltInt hi first lo d) w' := by
  go_enter Ybad.func34, Ybad.ntmps34
  go_wp2_with fail
  go_loopw [8] (fun vi wr => ∃ (r : Nat) (dk : Array Int), vi = .int .i64 r ∧ r ≤ d.size ∧ dk.size = d.size ∧ SW g w0 dk wr ∧
      Sort.siftDown Sort.ltInt hi first r dk = Sort.siftDown Sort.ltInt hi first lo d) (fun vi _ => hi - (intOf vi).toNat)
  case atStart => exact ⟨lo, d, rfl, hlo, rfl, hS.out, rfl⟩
  case round =>
    obtain ⟨r, dk, rfl, hr, hsk, hw, hO⟩ := hrel
    obtain ⟨G, hG⟩ : ∃ G : Nat → Int, ∀ t, dk[t]! = G t := ⟨fun t => dk[t]!, fun _ => rfl⟩
    have hcw : ∀ t, t < d.size → wr.cell? ⟨g, z + t, none⟩ = some (.int .u64 (G t)) := fun t ht => by
      rw [hz.out, Nat.zero_add, hw.cell t (by omega), hG]
    have hfw : ∀ t, t < d.size → wr.frozen? ⟨g, z + t, none⟩ = false := fun t ht => hw.frozen _
    have HW : Hid (SW g w0 dk wr) := hw
    have HG : Hid (∀ t, dk[t]! = G t) := hG
    have HO : Hid (Sort.siftDown Sort.ltInt hi first r dk = Sort.siftDown Sort.ltInt hi first lo d) := hO
    clear hw hG hO
    by_cases h1 : hi ≤ 2 * r + 1
    · go_wp2_with fail
      go_end0
      refine ⟨rfl, ?_⟩
      rw [← HO.out, sift_stop _ _ _ _ h1]
      exact HW.out
    · by_cases h2 : 2 * r + 1 + 1 < hi
      · have hd : decide ((2 * (r : Int) + 1 + 1) < (hi : Int)) = true := by simp; omega
        go_wp2_with fail
        go_quiet (first | (go_at_call 29; refine Calls.quiet_of_same (less_any _ _ _)))
        go_wp2_with fail
        · have h3 : Sort.ltInt (G (first + (2 * r + 1))) (G (first + (2 * r + 1) + 1)) = true := by assumption
          have HWq : Hid (SW g w0 dk (wr.drewN nq)) := HW.out.drewN nq
          have hcq : ∀ t, t < d.size → (wr.drewN nq).cell? ⟨g, z + t, none⟩ = some (.int .u64 (G t)) := hcw
          have hfq : ∀ t, t < d.size → (wr.drewN nq).frozen? ⟨g, z + t, none⟩ = false := hfw
          clear hcw hfw HW
          generalize wr.drewN nq = wq at HWq hcq hfq ⊢
          go_quiet (first | (go_at_call 29; refine Calls.quiet_of_same (less_any _ _ _)))
          go_wp2_with fail
          · have h4 : Sort.ltInt (G (first + r)) (G (first + (2 * r + 2))) = false := by
              first
              | assumption
              | (rename_i h; simpa [Nat.add_assoc] using h)
              | (rename_i h _ _; simpa [Nat.add_assoc] using h)
            refine bodyPost_ret (v := .tuple #[]) (by simp [results, Ybad.results34, go_sem]) rfl ?_
            refine ⟨rfl, ?_⟩
            rw [← HO.out, sift_right hi first r dk (by omega) (by rw [HG.out, HG.out]; exact h3), if_neg (by rw [HG.out, HG.out, h4]; simp)]
            exact HWq.out.drewN _
          · have h4 : Sort.ltInt (G (first + r)) (G (first + (2 * r + 2))) = true := by
              first
              | assumption
              | (rename_i h; simpa [Nat.add_assoc] using h)
              | (rename_i h _ _; simpa [Nat.add_assoc] using h)
            go_region
            all_goals go_wp2_with fail
            go_roundw
            case rel =>
              refine ⟨2 * r + 2, Sort.swp dk (first + r) (first + (2 * r + 2)), by congr 1, by omega, by rw [Sort.size_swp]; exact hsk, ?_, ?_⟩
              · refine (HWq.out.drewN _).exch (first + r) (first + (2 * r + 2)) (by rw [hz.out]; omega) (by rw [hz.out]; omega) (by rw [HG.out]; congr 1) (by rw [HG.out])
              · rw [← HO.out, sift_right hi first r dk (by omega) (by rw [HG.out, HG.out]; exact h3), if_pos (by rw [HG.out, HG.out]; exact h4)]
            case measure => simp [intOf]; omega
        · have h3 : Sort.ltInt (G (first + (2 * r + 1))) (G (first + (2 * r + 1) + 1)) = false := by assumption
          have HWq : Hid (SW g w0 dk (wr.drewN nq)) := HW.out.drewN nq
          have hcq : ∀ t, t < d.size → (wr.drewN nq).cell? ⟨g, z + t, none⟩ = some (.int .u64 (G t)) := hcw
          have hfq : ∀ t, t < d.size → (wr.drewN nq).frozen? ⟨g, z + t, none⟩ = false := hfw
          clear hcw hfw HW
          generalize wr.drewN nq = wq at HWq hcq hfq ⊢
          go_quiet (first | (go_at_call 29; refine Calls.quiet_of_same (less_any _ _ _)))
          go_wp2_with fail
          · have h4 : Sort.ltInt (G (first + r)) (G (first + (2 * r + 1))) = false := by
              first
              | assumption
              | (rename_i h; simpa [Nat.add_assoc] using h)
              | (rename_i h _ _; simpa [Nat.add_assoc] using h)
            refine bodyPost_ret (v := .tuple #[]) (by simp [results, Ybad.results34, go_sem]) rfl ?_
            refine ⟨rfl, ?_⟩
            rw [← HO.out, sift_left hi first r dk (by omega) (.inr (by rw [HG.out, HG.out]; exact h3)), if_neg (by rw [HG.out, HG.out, h4]; simp)]
            exact HWq.out.drewN _
          · have h4 : Sort.ltInt (G (first + r)) (G (first + (2 * r + 1))) = true := by
              first
              | assumption
              | (rename_i h; simpa [Nat.add_assoc] using h)
              | (rename_i h _ _; simpa [Nat.add_assoc] using h)
            go_region
            all_goals go_wp2_with fail
            go_roundw
            case rel =>
              refine ⟨2 * r + 1, Sort.swp dk (first + r) (first + (2 * r + 1)), by congr 1, by omega, by rw [Sort.size_swp]; exact hsk, ?_, ?_⟩
              · refine (HWq.out.drewN _).exch (first + r) (first + (2 * r + 1)) (by rw [hz.out]; omega) (by rw [hz.out]; omega) (by rw [HG.out]; congr 1) (by rw [HG.out])
              · rw [← HO.out, sift_left hi first r dk (by omega) (.inr (by rw [HG.out, HG.out]; exact h3)), if_pos (by rw [HG.out, HG.out]; exact h4)]
            case measure => simp [intOf]; omega
      · have hd : decide ((2 * (r : Int) + 1 + 1) < (hi : Int)) = false := by simp; omega
        go_wp2_with fail
        go_quiet (first | (go_at_call 29; refine Calls.quiet_of_same (less_any _ _ _)))
        go_wp2_with fail
        have HWq : Hid (SW g w0 dk (wr.drewN nq)) := HW.out.drewN nq
        have hcq : ∀ t, t < d.size → (wr.drewN nq).cell? ⟨g, z + t, none⟩ = some (.int .u64 (G t)) := hcw
        have hfq : ∀ t, t < d.size → (wr.drewN nq).frozen? ⟨g, z + t, none⟩ = false := hfw
        clear hcw hfw HW
        generalize wr.drewN nq = wq at HWq hcq hfq ⊢
        go_quiet (first | (go_at_call 29; refine Calls.quiet_of_same (less_any _ _ _)))
        go_wp2_with fail
        · have h4 : Sort.ltInt (G (first + r)) (G (first + (2 * r + 1))) = false := by
            first
            | assumption
            | (rename_i h; simpa [Nat.add_assoc] using h)
            | (rename_i h _ _; simpa [Nat.add_assoc] using h)
          refine bodyPost_ret (v := .tuple #[]) (by simp [results, Ybad.results34, go_sem]) rfl ?_
          refine ⟨rfl, ?_⟩
          rw [← HO.out, sift_left hi first r dk (by omega) (.inl (by omega)), if_neg (by rw [HG.out, HG.out, h4]; simp)]
          exact HWq.out.drewN _
        · have h4 : Sort.ltInt (G (first + r)) (G (first + (2 * r + 1))) = true := by
            first
            | assumption
            | (rename_i h; simpa [Nat.add_assoc] using h)
            | (rename_i h _ _; simpa [Nat.add_assoc] using h)
          go_region
          all_goals go_wp2_with fail
          go_roundw
          case rel =>
            refine ⟨2 * r + 1, Sort.swp dk (first + r) (first + (2 * r + 1)), by congr 1, by omega, by rw [Sort.size_swp]; exact hsk, ?_, ?_⟩
            · refine (HWq.out.drewN _).exch (first + r) (first + (2 * r + 1)) (by rw [hz.out]; omega) (by rw [hz.out]; omega) (by rw [HG.out]; congr 1) (by rw [HG.out])
            · rw [← HO.out, sift_left hi first r dk (by omega) (.inl (by omega)), if_pos (by rw [HG.out, HG.out]; exact h4)]
          case measure => simp [intOf]; omega

theorem sift_size (hi first : Nat) : ∀ (n r : Nat) (d : Array Int), hi - r ≤ n → (Sort.siftDown Sort.ltInt hi first r d).size = d.size
  | 0, r, d, h => by rw [sift_stop _ _ _ _ (by omega)]
  | n + 1, r, d, h => by
    by_cases h1 : hi ≤ 2 * r + 1
    · rw [sift_stop _ _ _ _ h1]
    · by_cases h2 : 2 * r + 1 + 1 < hi ∧ Sort.ltInt d[first + (2 * r + 1)]! d[first + (2 * r + 1) + 1]! = true
      · rw [sift_right hi first r d h2.1 h2.2]
        split
        · rw [sift_size hi first n _ _ (by omega), Sort.size_swp]
        · rfl
      · rw [sift_left hi first r d (by omega) (by
          by_cases h3 : 2 * r + 1 + 1 < hi
          · exact .inr (by simpa [h3] using h2)
          · exact .inl (by omega))]
        split
        · rw [sift_size hi first n _ _ (by omega), Sort.size_swp]
        · rfl
end Go.Proofs.YbulkeycDoor
