import Derived.Test.YbulkffcBuild
import Derived.Test.YbulkffcFits
import Derived.WalkSmall
namespace Go.Proofs.Ybulkffc
open Go.RowKit
set_option linter.unusedVariables false

theorem spec_long (a : Option Addr) (n cap F E : Nat) (w : World) (h : 1024 < n) (hm : n ≤ 9223372036854775807) :
    Calls Yba.prog 3 #[.slice a n cap, .int .u16 F, .int .u16 E] w fun e w' => e = .returned (.bool true) ∧ Below w.heap.size w w' := by
  go_enter Yba.func3, Yba.ntmps3
  go_wp2
  go_ret
  exact ⟨rfl, Below.refl _ _⟩

/-- What the builder leaves behind. -/
def Good (n : Nat) (T : Nat → ByteArray) (K : Nat → Nat) (w w1 : World) : Prop := Below w.heap.size w w1 ∧ w.heap.size + 1 < w1.heap.size ∧ w1.cell? ⟨w.heap.size + 1, 2, none⟩ = some (.slice (some ⟨w.heap.size, 0, none⟩) n n) ∧ Toks w1 w.heap.size n T K

set_option maxHeartbeats 1000000 in
theorem spec_core (a : Option Addr) (n cap F E fr en : Nat) (K : Nat → Nat) (T : Nat → ByteArray) (D : Nat → Bool) (w : World) (hn : n ≤ 1024) (hF : F < 65536) (hE : E < 65536) (hfr : fr ≤ n) (hen : en ≤ n)
    (kf : (F : Int) % ((n : Int) + 1) = fr) (ke : (E : Int) % ((n : Int) + 1) = en)
    (h6 : Hid (Calls Yba.prog 6 #[.slice a n cap] w fun e w' => e = .returned (.pointer (some ⟨w.heap.size + 1, 0, none⟩)) ∧ Good n T K w w'))
    (h7 : Hid (∀ w1, Good n T K w w1 → Calls Yba.prog 7 #[.pointer (some ⟨w.heap.size + 1, 0, none⟩), .int .i64 fr, .int .i64 en] w1 fun e w' => Below w1.heap.size w1 w' ∧
      ((∃ k : Nat, fr ≤ k ∧ k < en ∧ e = .returned (.tuple #[.int .i64 k, .bool true]) ∧ M.Fits K D fr en k) ∨
       (e = .returned (.tuple #[.int .i64 0, .bool false]) ∧ ∀ L, fr ≤ L → L < en → ¬ M.Fits K D fr en L))))
    (h8 : Hid (∀ (w1 : World) (L : Nat) (w2 : World), Good n T K w w1 → fr ≤ L → L < en → Below w1.heap.size w1 w2 → Calls Yba.prog 8 #[.slice (some ⟨w.heap.size, 0, none⟩) n n, .int .i64 fr, .int .i64 en, .int .i64 L] w2 fun e w' => Below w2.heap.size w2 w' ∧ Says e (M.Fits K D fr en L))) :
    Calls Yba.prog 3 #[.slice a n cap, .int .u16 F, .int .u16 E] w fun e w' => e = .returned (.bool true) ∧ Below w.heap.size w w' := by
  go_enter Yba.func3, Yba.ntmps3
  go_wp2_with fail
  refine h6.out.mono ?_
  rintro e w' ⟨rfl, hg⟩
  have HG : Hid (Good n T K w w') := hg
  obtain ⟨hB, hs1, hc, -⟩ := hg
  go_wp2_with fail
  refine (h7.out w' HG.out).mono ?_
  rintro e w2 ⟨hB2, ⟨k, hk1, hk2, rfl, hfit⟩ | ⟨rfl, hnone⟩⟩
  · have HF : Hid (M.Fits K D fr en k) := hfit
    clear hfit
    have hc2 : w2.cell? ⟨w.heap.size + 1, 2, none⟩ = some (.slice (some ⟨w.heap.size, 0, none⟩) n n) := (hB2.cell hs1).trans hc
    go_wp2_with fail
    refine (h8.out w' k w2 HG.out hk1 hk2 hB2).mono ?_
    rintro e w3 ⟨hB3, b, rfl, hb⟩
    have hbt : b = true := hb.2 HF.out
    subst hbt
    go_wp2_with fail
    go_ret
    exact ⟨rfl, hB.trans ((hB2.trans (hB3.mono hB2.size)).mono hB.size)⟩
  · have HN : Hid (∀ L, fr ≤ L → L < en → ¬ M.Fits K D fr en L) := hnone
    clear hnone
    go_wp2_with fail
    go_loopw [13] (fun kk wr => ∃ L : Nat, kk = .int .i64 L ∧ fr ≤ L ∧ L ≤ n ∧ Below w'.heap.size w' wr) (fun kk _ => (2000 - intOf kk).toNat)
    case atStart => exact ⟨fr, rfl, Nat.le_refl _, hfr, hB2⟩
    case round =>
      obtain ⟨L, rfl, hfL, hLn, hBr⟩ := hrel
      by_cases hL : L < en
      · have hc2 : wr.cell? ⟨w.heap.size + 1, 2, none⟩ = some (.slice (some ⟨w.heap.size, 0, none⟩) n n) := (hBr.cell hs1).trans hc
        go_wp2_with fail
        refine (h8.out w' L wr HG.out hfL hL hBr).mono ?_
        rintro e w3 ⟨hB3, b, rfl, hb⟩
        have hbf : b = false := Bool.eq_false_iff.2 fun h => HN.out L hfL hL (hb.1 h)
        subst hbf
        have hB4 : Below w'.heap.size w' w3 := hBr.trans (hB3.mono hBr.size)
        clear hb hB3
        go_wp2_with fail
        go_roundw
        case rel => first | exact ⟨L + 1, by go_num, by omega, by omega, hB4⟩ | ((repeat apply Exists.intro); exact ⟨⟨L + 1, by go_num, by omega, by omega, hB4⟩, rfl⟩)
        case measure => simp [intOf]; omega
      · go_wp2_with fail
        go_ret
        exact ⟨rfl, hB.trans (hBr.mono hB.size)⟩

theorem spec_walk (a : Option Addr) (n cap F E : Nat) (kd tx : Nat → Nat) (w : World) (hm : n ≤ 9223372036854775807) (hF : F < 65536) (hE : E < 65536) (hk : ∀ i, kd i < 256) (ht : ∀ i, tx i < 256)
    (hc : 0 < n → ∃ b off, a = some ⟨b, off, none⟩ ∧ b < w.heap.size ∧ ∀ i, i < n → w.cell? ⟨b, off + i * 2, none⟩ = some (.int .u8 (kd i)) ∧ w.cell? ⟨b, off + i * 2 + 1, none⟩ = some (.int .u8 (tx i))) :
    Calls Yba.prog 3 #[.slice a n cap, .int .u16 F, .int .u16 E] w fun e w' => e = .returned (.bool true) ∧ Below w.heap.size w w' := by
  by_cases hn : 1024 < n
  · exact spec_long a n cap F E w hn hm
  have hfr : F % (n + 1) ≤ n := by have := Nat.mod_lt F (show 0 < n + 1 by omega); omega
  have hen : E % (n + 1) ≤ n := by have := Nat.mod_lt E (show 0 < n + 1 by omega); omega
  have h6 : Calls Yba.prog 6 #[.slice a n cap] w fun e w' => e = .returned (.pointer (some ⟨w.heap.size + 1, 0, none⟩)) ∧ Good n (fun i => txt (tx i)) (fun i => kd i % 4) w w' := by
    refine (build_any a n cap kd tx w (by omega) hk ht hc).mono ?_
    rintro e w' ⟨A, c, nq, rfl, rfl, hc2, hA⟩
    refine ⟨rfl, below_drewN (((Below.refl _ _).alloc (Nat.le_refl _) _).alloc (by simp) _) nq, by simp, ?_, ?_⟩
    · rw [World.cell?_drewN, World.cell?_alloc_at _ _ _ _ (by simp)]
      exact hc2
    · intro i hi
      obtain ⟨h0, h1, h2, h3, h4, h5⟩ := hA i hi
      simp only [World.cell?_drewN]
      have hj : ∀ j, ((w.alloc (.cells A 42)).alloc (.cells c 35)).cell? ⟨w.heap.size, j, none⟩ = A[j]? := fun j => by
        rw [World.cell?_alloc_past _ _ _ (by simp), World.cell?_alloc_at _ _ _ _ rfl]
      rw [hj, hj, hj, hj, hj, hj]
      exact ⟨h0, h1, h2, h3, h4, h5⟩
  have hK : ∀ i, (fun i => kd i % 4) i < 4 := fun i => Nat.mod_lt _ (by decide)
  refine spec_core a n cap F E (F % (n + 1)) (E % (n + 1)) _ _ (fun i => dotB (txt (tx i)) (kd i % 4)) w (by omega) hF hE hfr hen ?_ ?_ h6 ?_ ?_
  · rw [show ((n : Int) + 1) = ((n + 1 : Nat) : Int) by omega]; rfl
  · rw [show ((n : Int) + 1) = ((n + 1 : Nat) : Int) by omega]; rfl
  · rintro w1 ⟨hB, hs, hcell, htoks⟩
    exact name_any (w.heap.size + 1) w.heap.size n (F % (n + 1)) (E % (n + 1)) _ _ (fun i => dotB (txt (tx i)) (kd i % 4)) (fun i => rfl) w1 (by omega) hfr hen hK hs (by omega) hcell htoks
  · rintro w1 L w2 ⟨hB, hs, hcell, htoks⟩ h1 h2 hB2
    exact fits_any w.heap.size n (F % (n + 1)) (E % (n + 1)) L _ _ (fun i => dotB (txt (tx i)) (kd i % 4)) (fun i => rfl) w2 (by omega) h1 h2 hen hK (Nat.lt_of_lt_of_le (by omega) hB2.size) (htoks.below (by omega) hB2)
end Go.Proofs.Ybulkffc
