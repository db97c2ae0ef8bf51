import Derived.Test.YbulkeycDoorSinv
import Derived.Shelf.Small.Bits
import Derived.Shelf.Lay
import Derived.Ground.NamesProg
import Derived.Sort.LotD5
import Derived.Laws.Bits64
import Derived.Laws.Bits64b
import Derived.Laws.BitsAllLaws
import Derived.Lib.ItoaNum
import Derived.Sort.Row
/- math/bits.Len by its contract; slices.nextPowerOfTwo; the generator's step. -/
namespace Go.Proofs
open Go.Shelf Go.RowKit
shelf_lay Lays.n125 Nm 125 at Ybad as YbulkeycDoor.laysLen
namespace YbulkeycDoor
set_option linter.unusedVariables false

theorem len_any (n : Nat) (h : n ≤ 100000) (w : World) : Calls Ybad.prog 20 #[.int .u64 (n : Int)] w fun e w' => e = .returned (.int .i64 (Lib.bitLen n : Nat)) ∧ w' = w := by
  have := Any.bits_Len laysLen (n : Int) w (by omega) (by omega)
  rw [Int.toNat_natCast] at this
  exact this

theorem len_bounds (n : Nat) (h0 : 0 < n) (h : n ≤ 100000) : 1 ≤ Lib.bitLen n ∧ 2 ^ (Lib.bitLen n - 1) ≤ n ∧ n < 2 ^ Lib.bitLen n := Lib.bitLenAux_bounds 64 n (by omega) (by omega)
theorem len_le (n : Nat) (h0 : 0 < n) (h : n ≤ 100000) : Lib.bitLen n ≤ 17 := by
  obtain ⟨h1, h2, _⟩ := len_bounds n h0 h
  rcases Nat.lt_or_ge (Lib.bitLen n) 18 with h3 | h3
  · omega
  · have h4 : 2 ^ 17 ≤ 2 ^ (Lib.bitLen n - 1) := Nat.pow_le_pow_right (by omega) (by omega)
    have h5 : (2 : Nat) ^ 17 = 131072 := by decide
    omega
theorem wrap_pow (k : Nat) (hk : k ≤ 62) : IntKind.u64.wrap ((2 : Int) ^ k) = ((2 ^ k : Nat) : Int) := by
  have h : (2 : Nat) ^ k ≤ 2 ^ 62 := Nat.pow_le_pow_right (by decide) hk
  have e : ((2 : Int) ^ k) = ((2 ^ k : Nat) : Int) := by push_cast; rfl
  rw [IntKind.wrap_u64, e]
  generalize (2 : Nat) ^ k = p at h
  omega

theorem next2_any (n : Nat) (h0 : 0 < n) (h : n ≤ 100000) (w : World) : Calls Ybad.prog 35 #[.int .i64 n] w fun e w' => e = .returned (.int .u64 ((2 ^ Lib.bitLen n : Nat) : Int)) ∧ w' = w := by
  have hL := len_any n h
  have hp := wrap_pow (Lib.bitLen n) (by have := len_le n h0 h; omega)
  go_enter Ybad.func35, Ybad.ntmps35
  go_wp2_with (first | (go_at_call 20; refine (hL _).mono ?_; rintro e w' ⟨rfl, rfl⟩))
  go_ret
  refine ⟨?_, rfl⟩
  show Ending.returned (.int .u64 (IntKind.u64.wrap (2 ^ min (Lib.bitLen n) 64))) = _
  rw [Nat.min_eq_left (by have := len_le n h0 h; omega), hp]

theorem xor64 (x y : Int) : ∃ A : Nat, A < 18446744073709551616 ∧ bits .xor .u64 x y = (A : Int) := by
  refine ⟨(bits .xor .u64 x y).toNat, ?_, ?_⟩
  · show (IntKind.u64.wrap _).toNat < _
    rw [IntKind.wrap_u64]
    omega
  · show IntKind.u64.wrap _ = ((IntKind.u64.wrap _).toNat : Int)
    rw [IntKind.wrap_u64]
    omega
theorem set_set (w : World) (b o : Nat) (v v' : Value) : (w.setCell ⟨b, o, none⟩ v).setCell ⟨b, o, none⟩ v' = w.setCell ⟨b, o, none⟩ v' := by
  rw [Sort.setCell_eq, Sort.setCell_eq, Sort.mapBlock_mapBlock, Sort.setCell_eq]
  congr 1
  funext c
  simp

/-- The generator's cell. -/
def Rnd (w : World) (r X : Nat) : Prop := w.heap[r]? = some (.cells #[.int .u64 (X : Int)] 68 (0, 0))
theorem Rnd.set {w : World} {r X : Nat} (h : Rnd w r X) (Y : Nat) : Rnd (w.setCell ⟨r, 0, none⟩ (.int .u64 (Y : Int))) r Y := by
  unfold Rnd at *
  rw [heap_setCell_same w r 0 _ 68 _ h]
  rfl
theorem Rnd.ne {w w0 : World} {r X g : Nat} {d : Array Int} (h : Rnd w r X) (hS : SW g w0 d w) : g ≠ r := by
  rintro rfl
  unfold Rnd at h
  rw [hS.row] at h
  simp at h

set_option maxHeartbeats 1000000 in
theorem rnd_any (g r X : Nat) (d : Array Int) (w0 w : World) (hS : Hid (SW g w0 d w)) (hR : Hid (Rnd w r X)) (hr : Hid (w0.heap.size ≤ r)) :
    Calls Ybad.prog 36 #[.pointer (some ⟨r, 0, none⟩)] w fun e w' => ∃ Y : Nat, e = .returned (.int .u64 (Y : Int)) ∧ Y < 18446744073709551616 ∧ SW g w0 d w' ∧ Rnd w' r Y := by
  obtain ⟨A, lA, e1⟩ := xor64 (X : Int) (IntKind.u64.wrap ((X : Int) * 8192))
  obtain ⟨B, lB, e2⟩ := xor64 (A : Int) ((A : Int) / 128)
  obtain ⟨C, lC, e3⟩ := xor64 (B : Int) (IntKind.u64.wrap ((B : Int) * 131072))
  have hss : ∀ v v', (w.setCell ⟨r, 0, none⟩ v).setCell ⟨r, 0, none⟩ v' = w.setCell ⟨r, 0, none⟩ v' := set_set w r 0
  have hc : w.cell? ⟨r, 0, none⟩ = some (.int .u64 (X : Int)) := by have := hR.out; unfold Rnd at this; simp [World.cell?, this]
  have hf : w.frozen? ⟨r, 0, none⟩ = false := by have := hR.out; unfold Rnd at this; simp [World.frozen?, this]
  go_enter Ybad.func36, Ybad.ntmps36
  go_wp2
  go_region
  all_goals go_wp2
  all_goals go_region
  all_goals go_wp2
  all_goals go_region
  all_goals go_wp2
  go_ret
  refine ⟨C, rfl, lC, ?_, ?_⟩
  · exact (hS.out.other r 0 _ hr.out (hR.out.ne hS.out)).drew.drew.drew
  · exact hR.out.set C
end YbulkeycDoor
end Go.Proofs
