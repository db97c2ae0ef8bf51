import Derived.Test.YbulkffcLow
import Derived.Deep.RegionHeld3
namespace Go.Proofs.Ybulkffc
open Go.RowKit
set_option linter.unusedVariables false

theorem info42 : (Yba.prog.info? 42).map (fun i => (i.zero, i.size, i.bytes)) = some (some (.agg #[.string ⟨#[]⟩, .slice none 0 0, .int .i64 0, .int .u8 0, .bool false, .bool false]), 6, 56) := by kernel_rfl

def made (n : Nat) : Array Value := madeCells #[.string ⟨#[]⟩, .slice none 0 0, .int .i64 0, .int .u8 0, .bool false, .bool false] (n * 6)
theorem make_run (n : Nat) (hn : n ≤ 1024) (W : World) : (Instr.makeSlice 30 (.int .i64 n) (.int .i64 n)).run Yba.prog W = .ok (.slice (some ⟨W.heap.size, 0, none⟩) n n) (W.alloc (.cells (made n) 42)) := by
  obtain ⟨i, hi, hz0, hz1, hz2⟩ := info_parts info42
  have := run_make (P := Yba.prog) W 30 42 i _ Yba.underlying30 hi hz0 .i64 .i64 n n (by omega) (by omega) (by rw [hz2]; omega) (by omega)
  rw [this, hz1]
  rfl

/-- One token's six cells, stored. -/
def six (A : Array Value) (k : Nat) (T : ByteArray) (z : Int) : Array Value :=
  (((((A.setIfInBounds (k * 6) (.string T)).setIfInBounds (k * 6 + 1) (.slice none 0 0)).setIfInBounds (k * 6 + 2) (.int .i64 0)).setIfInBounds (k * 6 + 3) (.int .u8 z)).setIfInBounds (k * 6 + 4) (.bool false)).setIfInBounds (k * 6 + 5) (.bool false)

theorem drewN_setCell (w : World) (m : Nat) (a : Addr) (v : Value) : (w.drewN m).setCell a v = (w.setCell a v).drewN m := rfl

theorem six_world (w : World) (A : Array Value) (k m : Nat) (T : ByteArray) (z : Int) :
    ((((((((w.alloc (.cells A 42)).drewN m).setCell ⟨w.heap.size, k * 6, none⟩ (.string T)).setCell ⟨w.heap.size, k * 6 + 1, none⟩ (.slice none 0 0)).setCell ⟨w.heap.size, k * 6 + 2, none⟩ (.int .i64 0)).setCell ⟨w.heap.size, k * 6 + 3, none⟩ (.int .u8 z)).setCell ⟨w.heap.size, k * 6 + 4, none⟩ (.bool false)).setCell ⟨w.heap.size, k * 6 + 5, none⟩ (.bool false)) = (w.alloc (.cells (six A k T z) 42)).drewN m := by
  simp only [drewN_setCell]
  rw [World.setCell_alloc_at _ _ _ _ _ rfl, World.setCell_alloc_at _ _ _ _ _ rfl, World.setCell_alloc_at _ _ _ _ _ rfl, World.setCell_alloc_at _ _ _ _ _ rfl, World.setCell_alloc_at _ _ _ _ _ rfl, World.setCell_alloc_at _ _ _ _ _ rfl]
  rfl

theorem six_cells (A : Array Value) (k n : Nat) (T : ByteArray) (z : Nat) (hA : A.size = n * 6) (hk : k < n) :
    (six A k T ((z : Int).tmod 4)).size = n * 6 ∧ ((six A k T ((z : Int).tmod 4))[k * 6]? = some (.string T) ∧ (six A k T ((z : Int).tmod 4))[k * 6 + 1]? = some (.slice none 0 0) ∧ (six A k T ((z : Int).tmod 4))[k * 6 + 2]? = some (.int .i64 0) ∧ (six A k T ((z : Int).tmod 4))[k * 6 + 3]? = some (.int .u8 (z % 4 : Nat)) ∧ (six A k T ((z : Int).tmod 4))[k * 6 + 4]? = some (.bool false) ∧ (six A k T ((z : Int).tmod 4))[k * 6 + 5]? = some (.bool false)) ∧
    ∀ j, j < k * 6 → (six A k T ((z : Int).tmod 4))[j]? = A[j]? := by
  unfold six
  have e : ((z : Int).tmod 4) = ((z % 4 : Nat) : Int) := rfl
  rw [e]
  refine ⟨by simp [hA], ?_, ?_⟩
  · refine ⟨?_, ?_, ?_, ?_, ?_, ?_⟩
    all_goals (simp [Array.getElem?_setIfInBounds, hA]; try omega)
  · intro j hj
    simp only [Array.getElem?_setIfInBounds]
    rw [if_neg (by omega), if_neg (by omega), if_neg (by omega), if_neg (by omega), if_neg (by omega), if_neg (by omega)]

set_option maxHeartbeats 400000 in
theorem build_any (a : Option Addr) (n cap : Nat) (kd tx : Nat → Nat) (w : World) (hn : n ≤ 1024) (hk : ∀ i, kd i < 256) (ht : ∀ i, tx i < 256)
    (hc' : Hid (0 < n → ∃ b off, a = some ⟨b, off, none⟩ ∧ b < w.heap.size ∧ ∀ i, i < n → w.cell? ⟨b, off + i * 2, none⟩ = some (.int .u8 (kd i)) ∧ w.cell? ⟨b, off + i * 2 + 1, none⟩ = some (.int .u8 (tx i)))) :
    Calls Yba.prog 6 #[.slice a n cap] w fun e w' => ∃ (A : Array Value) (c : Array Value) (nq : Nat), e = .returned (.pointer (some ⟨w.heap.size + 1, 0, none⟩)) ∧ w' = ((w.alloc (.cells A 42)).alloc (.cells c 35)).drewN nq ∧
      c[2]? = some (.slice (some ⟨w.heap.size, 0, none⟩) n n) ∧ ∀ i, i < n → A[i * 6]? = some (.string (txt (tx i))) ∧ A[i * 6 + 1]? = some (.slice none 0 0) ∧ A[i * 6 + 2]? = some (.int .i64 0) ∧ A[i * 6 + 3]? = some (.int .u8 (kd i % 4 : Nat)) ∧ A[i * 6 + 4]? = some (.bool false) ∧ A[i * 6 + 5]? = some (.bool false) := by
  have hmk := make_run n hn
  go_enter Yba.func6, Yba.ntmps6
  go_wp2
  go_loopw [10] (fun kk wr => ∃ (k : Nat) (A : Array Value) (nq : Nat), kk = .int .i64 k ∧ k ≤ n ∧ wr = (w.alloc (.cells A 42)).drewN nq ∧ A.size = n * 6 ∧
    ∀ i, i < k → A[i * 6]? = some (.string (txt (tx i))) ∧ A[i * 6 + 1]? = some (.slice none 0 0) ∧ A[i * 6 + 2]? = some (.int .i64 0) ∧ A[i * 6 + 3]? = some (.int .u8 (kd i % 4 : Nat)) ∧ A[i * 6 + 4]? = some (.bool false) ∧ A[i * 6 + 5]? = some (.bool false)) (fun kk _ => (2000 - intOf kk).toNat)
  case atStart => exact ⟨0, made n, 0, rfl, by omega, rfl, size_madeCells _ _, fun i hi => by omega⟩
  case round =>
    obtain ⟨k, A, nq, rfl, hkn, rfl, hA, hup⟩ := hrel
    have HU : Hid (∀ i, i < k → A[i * 6]? = some (.string (txt (tx i))) ∧ A[i * 6 + 1]? = some (.slice none 0 0) ∧ A[i * 6 + 2]? = some (.int .i64 0) ∧ A[i * 6 + 3]? = some (.int .u8 (kd i % 4 : Nat)) ∧ A[i * 6 + 4]? = some (.bool false) ∧ A[i * 6 + 5]? = some (.bool false)) := hup
    clear hup
    by_cases hlt : k < n
    · obtain ⟨b, off, ha, hb, hcs⟩ := hc'.out (by omega)
      subst ha
      obtain ⟨c1, c2⟩ := hcs k hlt
      clear hcs
      have ht1 : Hid (∀ W, Calls Yba.prog 12 #[.int .u8 (tx k)] W fun e w' => e = .returned (.string (txt (tx k))) ∧ w' = W) := fun W => text_any (tx k) (ht k) W
      have hk1 := hk k
      have ht2 := ht k
      clear hk ht hmk
      generalize hkk : kd k = kk at *
      have Hkk : Hid (kd k = kk) := hkk
      clear hkk
      generalize htt : txt (tx k) = TT at *
      have Htt : Hid (txt (tx k) = TT) := htt
      clear htt
      generalize tx k = tt at c2 ht1 ht2
      obtain ⟨v0, e0⟩ : ∃ v, A[k * 6]? = some v := ⟨A[k * 6]'(by omega), by simp⟩
      obtain ⟨v1, e1⟩ : ∃ v, A[k * 6 + 1]? = some v := ⟨A[k * 6 + 1]'(by omega), by simp⟩
      obtain ⟨v2, e2⟩ : ∃ v, A[k * 6 + 2]? = some v := ⟨A[k * 6 + 2]'(by omega), by simp⟩
      obtain ⟨v3, e3⟩ : ∃ v, A[k * 6 + 3]? = some v := ⟨A[k * 6 + 3]'(by omega), by simp⟩
      obtain ⟨v4, e4⟩ : ∃ v, A[k * 6 + 4]? = some v := ⟨A[k * 6 + 4]'(by omega), by simp⟩
      obtain ⟨v5, e5⟩ : ∃ v, A[k * 6 + 5]? = some v := ⟨A[k * 6 + 5]'(by omega), by simp⟩
      have i0 : (0 : Int) ≤ (k : Int) := by omega
      have i1 : (k : Int) < (n : Int) := by omega
      go_wp2
      go_region_held3 (fun w' => w'.cell? ⟨b, off + k * 2, none⟩ = some (.int .u8 kk) ∧ w'.cell? ⟨b, off + k * 2 + 1, none⟩ = some (.int .u8 tt)) (simp [go_sem, World.cell?_alloc_past, *])
        (first | (go_at_call 12; refine (ht1.out _).mono ?_; rintro e w' ⟨rfl, rfl⟩))
      rename_i hHeld
      clear hHeld
      have HW := six_world w A k (nq + 1) TT ((kk : Int).tmod 4)
      rw [HW]
      have HA := six_cells A k n TT kk hA hlt
      have HA' : Hid _ := HA
      clear HA HW
      go_wp2
      go_roundw
      case rel => 
        refine ⟨k + 1, six A k TT ((kk : Int).tmod 4), nq + 1, by go_num, by omega, rfl, HA'.out.1, fun i hi => ?_⟩
        by_cases hik : i = k
        · subst hik
          rw [Htt.out, Hkk.out]
          exact HA'.out.2.1
        · have := HU.out i (by omega)
          have o := HA'.out.2.2
          rw [o (i * 6) (by omega), o (i * 6 + 1) (by omega), o (i * 6 + 2) (by omega), o (i * 6 + 3) (by omega), o (i * 6 + 4) (by omega), o (i * 6 + 5) (by omega)]
          exact this
      case measure => simp [intOf]; omega
    · have hkn' : k = n := by omega
      subst hkn'
      go_wp2
      go_ret
      exact ⟨A, _, nq, rfl, rfl, rfl, HU.out⟩

end Go.Proofs.Ybulkffc
