import Derived.Test.YbulkeycDoorSrow
/- slices.insertionSortOrdered at words of 64 bits. -/
namespace Go.Proofs.YbulkeycDoor
open Go.RowKit
set_option linter.unusedVariables false

theorem inner_go (a j : Nat) (d : Array Int) (hj : a < j) (hl : Sort.ltInt d[j]! d[j - 1]! = true) : Sort.insInner Sort.ltInt a j d = Sort.insInner Sort.ltInt a (j - 1) (Sort.swp d j (j - 1)) := by
  cases j with
  | zero => omega
  | succ k =>
    rw [Sort.insInner]
    simp only [Nat.add_sub_cancel] at hl ⊢
    simp [hj, hl]
theorem inner_stop (a j : Nat) (d : Array Int) (h : j ≤ a ∨ Sort.ltInt d[j]! d[j - 1]! = false) : Sort.insInner Sort.ltInt a j d = d := by
  cases j with
  | zero => rw [Sort.insInner]
  | succ k =>
    rw [Sort.insInner]
    simp only [Nat.add_sub_cancel] at h
    rcases h with h | h
    · simp; omega
    · simp [h]

theorem ins_eq (g a b : Nat) (d : Array Int) (w0 w : World) (hS : Hid (SW g w0 d w)) (hab : a ≤ b) (hb : b ≤ d.size) (hsz : d.size ≤ 100000) (cap : Nat) :
    Calls Ybad.prog 23 #[.slice (some ⟨g, 0, none⟩) d.size cap, .int .i64 a, .int .i64 b] w fun e w' =>
      e = .returned (.tuple #[]) ∧ SW g w0 (Sort.insertionSort Sort.ltInt d a b) w' := by
  go_enter Ybad.func23, Ybad.ntmps23
  go_wp2
  go_loopw [6] (fun vi wr => ∃ (i : Nat) (dk : Array Int), vi = .int .i64 i ∧ a < i ∧ i ≤ b + 1 ∧ dk.size = d.size ∧ SW g w0 dk wr ∧
      Sort.insOuter Sort.ltInt a b i dk = Sort.insOuter Sort.ltInt a b (a + 1) d) (fun vi _ => b + 1 - (intOf vi).toNat)
  case atStart => exact ⟨a + 1, d, by go_num, by omega, by omega, rfl, hS.out, rfl⟩
  case round =>
    obtain ⟨i, dk, rfl, hai, hib, hsk, hw, hO⟩ := hrel
    have HW : Hid (SW g w0 dk wr) := hw
    have HO : Hid (Sort.insOuter Sort.ltInt a b i dk = Sort.insOuter Sort.ltInt a b (a + 1) d) := hO
    clear hO hw
    by_cases hlt : i < b
    · go_wp2
      go_loopw [7] (fun vj wr2 => ∃ (j : Nat) (dj : Array Int), vj = .int .i64 j ∧ a ≤ j ∧ j ≤ i ∧ dj.size = d.size ∧ SW g w0 dj wr2 ∧
          Sort.insInner Sort.ltInt a j dj = Sort.insInner Sort.ltInt a i dk) (fun vj _ => (intOf vj).toNat)
      case atStart => exact ⟨i, dk, rfl, by omega, Nat.le_refl _, hsk, HW.out, rfl⟩
      case round =>
        obtain ⟨j, dj, rfl, haj, hji, hsj, hw2, hI⟩ := hrel
        obtain ⟨G, hG⟩ : ∃ G : Nat → Int, ∀ t, dj[t]! = G t := ⟨fun t => dj[t]!, fun _ => rfl⟩
        have hcw : ∀ t, t < d.size → wr.cell? ⟨g, t, none⟩ = some (.int .u64 (G t)) := fun t ht => by
          rw [hw2.cell t (by omega), hG]
        have hfw : ∀ t, t < d.size → wr.frozen? ⟨g, t, none⟩ = false := fun t ht => hw2.frozen _
        have HW2 : Hid (SW g w0 dj wr) := hw2
        have HG : Hid (∀ t, dj[t]! = G t) := hG
        have HI : Hid (Sort.insInner Sort.ltInt a j dj = Sort.insInner Sort.ltInt a i dk) := hI
        clear hw2 hG hI
        have OUT : Hid ((j ≤ a ∨ Sort.ltInt (G j) (G (j - 1)) = false) → ∀ q, ∃ (i' : Nat) (dk' : Array Int), Value.int .i64 ((i : Int) + 1) = .int .i64 (i' : Nat) ∧ a < i' ∧ i' ≤ b + 1 ∧ dk'.size = d.size ∧
            SW g w0 dk' (wr.drewN q) ∧ Sort.insOuter Sort.ltInt a b i' dk' = Sort.insOuter Sort.ltInt a b (a + 1) d) := fun hs q =>
          ⟨i + 1, dj, by go_num, by omega, by omega, hsj, HW2.out.drewN q, by
            rw [← HO.out]
            conv => rhs; rw [Sort.insOuter, if_pos hlt]
            rw [← HI.out, inner_stop _ _ _ (by rw [HG.out, HG.out]; exact hs)]⟩
        have hj1 : j < d.size := by omega
        have hj2 : j - 1 < d.size := by omega
        go_wp2
        by_cases hja : a < j
        · go_quiet (first | (go_at_call 29; refine Calls.quiet_of_same (less_any _ _ _)))
          go_wp2
          · have hl : Sort.ltInt (G j) (G (j - 1)) = true := by assumption
            go_region
            all_goals go_wp2
            go_roundw
            case rel =>
              refine ⟨j - 1, Sort.swp dj j (j - 1), by congr 1; omega, by omega, by omega, by rw [Sort.size_swp]; exact hsj, ?_, ?_⟩
              · have := (HW2.out.drewN (nq + 1)).swp j (j - 1)
                rw [HG.out, HG.out] at this
                exact this
              · rw [← HI.out, inner_go a j dj hja (by rw [HG.out, HG.out]; exact hl)]
            case measure => simp [intOf]; omega
          · have hl : Sort.ltInt (G j) (G (j - 1)) = false := by assumption
            go_roundw
            case rel => exact OUT.out (Or.inr hl) nq
            case measure => simp [intOf]; omega
        · go_quiet (first | (go_at_call 29; refine Calls.quiet_of_same (less_any _ _ _)))
          go_wp2
          go_roundw
          case rel => exact OUT.out (Or.inl (by omega)) nq
          case measure => simp [intOf]; omega
    · go_wp2
      go_end0
      refine ⟨rfl, ?_⟩
      unfold Sort.insertionSort
      rw [← HO.out, Sort.insOuter, if_neg hlt]
      exact HW.out
end Go.Proofs.YbulkeycDoor
