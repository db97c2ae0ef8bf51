import Derived.Test.YbulkffcName
namespace Go.Proofs.Ybulkffc
open Go.RowKit
set_option linter.unusedVariables false

/-- The call answers whether p. -/
def Says (e : Ending) (p : Prop) : Prop := ∃ b : Bool, e = .returned (.bool b) ∧ (b = true ↔ p)
theorem says_yes {v : Value} {p : Prop} (hv : v = .bool true) (h : p) : Says (.returned v) p := ⟨true, by rw [hv], by simp [h]⟩
theorem says_no {v : Value} {p : Prop} (hv : v = .bool false) (h : ¬ p) : Says (.returned v) p := ⟨false, by rw [hv], by simp [h]⟩

set_option maxHeartbeats 2000000 in
theorem fits_any (bT n fr en L : Nat) (T : Nat → ByteArray) (K : Nat → Nat) (D : Nat → Bool) (hD : Hid (∀ i, D i = dotB (T i) (K i))) (w : World) (hn : n ≤ 1024) (hfL : fr ≤ L) (hLe : L < en) (hen : en ≤ n) (hK : Hid (∀ i, K i < 4))
    (hT : bT < w.heap.size) (ht : Hid (Toks w bT n T K)) :
    Calls Yba.prog 8 #[.slice (some ⟨bT, 0, none⟩) n n, .int .i64 fr, .int .i64 en, .int .i64 L] w fun e w' => Below w.heap.size w w' ∧ Says e (M.Fits K D fr en L) := by
  by_cases hodd : (L - fr) % 2 = 1
  · have HF : Hid (¬ M.Fits K D fr en L) := fun h => by have := h.1; omega
    have ho : (((L : Int) - (fr : Int)) % 2 != 0) = true := by simp; omega
    clear hodd
    go_enter Yba.func8, Yba.ntmps8
    go_wp2
    go_ret
    exact ⟨Below.refl _ _, says_no rfl HF.out⟩
  · have he : (((L : Int) - (fr : Int)) % 2 != 0) = false := by simp; omega
    have t1 : decide (L < fr) = false := by simp; omega
    have t2 : decide (en ≤ L) = false := by simp; omega
    have HE : Hid ((L - fr) % 2 = 0) := by show _ = _; omega
    clear hodd
    go_enter Yba.func8, Yba.ntmps8
    go_wp2
    go_loopw [9] (fun kk wr => ∃ q : Nat, kk = .int .i64 q ∧ fr ≤ q ∧ q ≤ L ∧ M.Upto K D fr q ∧ Below w.heap.size w wr) (fun kk _ => (2000 - intOf kk).toNat)
    case atStart => exact ⟨fr, rfl, Nat.le_refl _, hfL, M.upto_start _ _ _, Below.refl _ _⟩
    case round =>
      obtain ⟨q, rfl, hfq, hqL, hup, hB⟩ := hrel
      have hTr : bT < wr.heap.size := Nat.lt_of_lt_of_le hT hB.size
      have HTr : Hid (Toks wr bT n T K) := ht.out.below hT hB
      have HU : Hid (M.Upto K D fr q) := hup
      clear hup
      by_cases hq : q < L
      · obtain ⟨c0, c1, c2, c3, c4, c5⟩ := HTr.out q (by omega)
        by_cases hpar : (q - fr) % 2 = 0
        · have p1 : (((q : Int) - (fr : Int)) % 2 == 0) = true := by simp; omega
          by_cases hk1 : K q = 1
          · have HN : Hid (M.Upto K D fr (q + 1)) := M.upto_even HU.out hpar hk1
            have b1 : ((K q : Int) != 1) = false := by simp; omega
            clear hk1 hpar
            generalize K q = K1 at *
            go_wp2_with fail
            go_roundw
            case rel => exact ⟨q + 1, by go_num, by omega, by omega, HN.out, hB⟩
            case measure => simp [intOf]; omega
          · have HF : Hid (¬ M.Fits K D fr en L) := fun h => hk1 ((h.2.1 q hfq hq).1 hpar)
            have b1 : ((K q : Int) != 1) = true := by simp; omega
            clear hk1 hpar
            generalize K q = K1 at *
            go_wp2_with fail
            go_ret
            exact ⟨hB, says_no rfl HF.out⟩
        · have p1 : (((q : Int) - (fr : Int)) % 2 == 0) = false := by simp; omega
          have hcall : Hid (Calls Yba.prog 14 _ wr _) := dot_any (T q) (K q) (hK.out _) wr
          rw [← hD.out] at hcall
          by_cases hd : D q = true
          · have HN : Hid (M.Upto K D fr (q + 1)) := M.upto_odd HU.out (by omega) hd
            rw [hd] at hcall
            clear hd hpar
            generalize K q = K1 at *
            generalize T q = T1 at *
            go_wp2_with fail
            refine hcall.out.mono ?_
            rintro e w2 ⟨rfl, rfl⟩
            go_wp2_with fail
            go_roundw
            case rel => first | exact ⟨q + 1, by go_num, by omega, by omega, HN.out, hB.alloc hB.size _⟩ | ((repeat apply Exists.intro); exact ⟨⟨q + 1, by go_num, by omega, by omega, HN.out, hB.alloc hB.size _⟩, rfl⟩)
            case measure => simp [intOf]; omega
          · have HF : Hid (¬ M.Fits K D fr en L) := fun h => hd ((h.2.1 q hfq hq).2 (by omega))
            rw [Bool.eq_false_iff.2 hd] at hcall
            clear hd hpar
            generalize K q = K1 at *
            generalize T q = T1 at *
            go_wp2_with fail
            refine hcall.out.mono ?_
            rintro e w2 ⟨rfl, rfl⟩
            go_wp2_with fail
            go_ret
            exact ⟨hB.alloc hB.size _, says_no rfl HF.out⟩
      · have hqe : q = L := by omega
        subst hqe
        obtain ⟨c0, c1, c2, c3, c4, c5⟩ := HTr.out q (by omega)
        by_cases hk1 : K q = 1
        · have b1 : ((K q : Int) != 1) = false := by simp; omega
          by_cases h1 : q + 1 < en
          · obtain ⟨d0, d1, d2, d3, d4, d5⟩ := HTr.out (q + 1) (by omega)
            have hcall : Hid (Calls Yba.prog 14 _ wr _) := dot_any (T (q + 1)) (K (q + 1)) (hK.out _) wr
            rw [← hD.out] at hcall
            by_cases hd : D (q + 1) = true
            · have HF : Hid (¬ M.Fits K D fr en q) := fun h => h.2.2.2 ⟨h1, hd⟩
              rw [hd] at hcall
              clear hd hk1
              generalize K (q + 1) = K2 at *
              generalize T (q + 1) = T2 at *
              generalize K q = K1 at *
              go_wp2_with fail
              refine hcall.out.mono ?_
              rintro e w2 ⟨rfl, rfl⟩
              go_wp2_with fail
              go_ret
              exact ⟨hB.alloc hB.size _, says_no rfl HF.out⟩
            · have HF : Hid (M.Fits K D fr en q) := ⟨HE.out, HU.out, hk1, fun h => hd h.2⟩
              rw [Bool.eq_false_iff.2 hd] at hcall
              clear hd hk1
              generalize K (q + 1) = K2 at *
              generalize T (q + 1) = T2 at *
              generalize K q = K1 at *
              go_wp2_with fail
              refine hcall.out.mono ?_
              rintro e w2 ⟨rfl, rfl⟩
              go_wp2_with fail
              go_ret
              exact ⟨hB.alloc hB.size _, says_yes rfl HF.out⟩
          · have HF : Hid (M.Fits K D fr en q) := ⟨HE.out, HU.out, hk1, fun h => h1 h.1⟩
            clear hk1
            generalize K q = K1 at *
            go_wp2_with fail
            go_ret
            exact ⟨hB, says_yes rfl HF.out⟩
        · have HF : Hid (¬ M.Fits K D fr en q) := fun h => hk1 h.2.2.1
          have b1 : ((K q : Int) != 1) = true := by simp; omega
          clear hk1
          generalize K q = K1 at *
          go_wp2_with fail
          go_ret
          exact ⟨hB, says_no rfl HF.out⟩
end Go.Proofs.Ybulkffc
