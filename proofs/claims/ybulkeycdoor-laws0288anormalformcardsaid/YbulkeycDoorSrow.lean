import Derived.Test.YbulkeycDoorRows
import Derived.Sort.AssemblyPlain
import Derived.WalkKit
import Derived.BigGuard
import Derived.BigCall
import Derived.CellFam
import Derived.Deep.Draws
import Derived.Deep.QuietTactic
import Derived.BigQuiet
import Derived.Below
import Derived.RegionTactic
import Derived.Laws.Rows
/- The row that is sorted: one block of words of 64 bits, and what else of the world stays. -/
namespace Go.Proofs.YbulkeycDoor
open Go.RowKit
set_option linter.unusedVariables false

def encU (z : Int) : Value := .int .u64 z

/-- w is w0 but for the block g, which holds d; for draws; and for new blocks. -/
structure SW (g : Nat) (w0 : World) (d : Array Int) (w : World) : Prop where
  row : w.heap[g]? = some (.cells (d.map encU) 26 (0, 0))
  os : w.os = w0.os
  tape : w.tape = w0.tape
  output : w.output = w0.output
  size : w0.heap.size ≤ w.heap.size
  block : ∀ k, k < w0.heap.size → k ≠ g → w.heap[k]? = w0.heap[k]?

theorem SW.lt {g : Nat} {w0 w : World} {d : Array Int} (h : SW g w0 d w) : g < w.heap.size := (Array.getElem?_eq_some_iff.1 h.row).1
theorem SW.cell {g : Nat} {w0 w : World} {d : Array Int} (h : SW g w0 d w) (j : Nat) (hj : j < d.size) : w.cell? ⟨g, j, none⟩ = some (.int .u64 d[j]!) := by
  rw [cell_of_row w g j _ 26 (0, 0) h.row]
  simp [hj, encU]
theorem SW.frozen {g : Nat} {w0 w : World} {d : Array Int} (h : SW g w0 d w) (j : Nat) : w.frozen? ⟨g, j, none⟩ = false := frozen_of_row w g j _ 26 h.row
theorem SW.drewN {g : Nat} {w0 w : World} {d : Array Int} (h : SW g w0 d w) (n : Nat) : SW g w0 d (w.drewN n) := ⟨h.row, h.os, h.tape, h.output, h.size, h.block⟩
theorem SW.drew {g : Nat} {w0 w : World} {d : Array Int} (h : SW g w0 d w) : SW g w0 d w.drew := ⟨h.row, h.os, h.tape, h.output, h.size, h.block⟩
theorem SW.alloc {g : Nat} {w0 w : World} {d : Array Int} (h : SW g w0 d w) (o : Obj) : SW g w0 d (w.alloc o) := by
  refine ⟨?_, h.os, h.tape, h.output, Nat.le_trans h.size (by simp), fun k hk hne => ?_⟩
  · rw [heap_alloc_old w o h.lt]; exact h.row
  · rw [heap_alloc_old w o (Nat.lt_of_lt_of_le hk h.size)]; exact h.block k hk hne
theorem heap_setCell_other (w : World) (b i : Nat) (v : Value) (k : Nat) (hk : k ≠ b) : (w.setCell ⟨b, i, none⟩ v).heap[k]? = w.heap[k]? := by
  simp [World.setCell, Array.getElem?_modify, Ne.symm hk]
theorem SW.set {g : Nat} {w0 w : World} {d : Array Int} (h : SW g w0 d w) (j : Nat) (z : Int) : SW g w0 (d.setIfInBounds j z) (w.setCell ⟨g, j, none⟩ (.int .u64 z)) := by
  refine ⟨?_, h.os, h.tape, h.output, ?_, fun k hk hne => ?_⟩
  · rw [heap_setCell_same w g j _ 26 _ h.row]
    congr 2
    apply Array.ext_getElem?
    intro i
    simp only [Array.getElem?_map, Array.getElem?_setIfInBounds]
    by_cases hji : j = i
    · subst hji
      simp [encU]
    · simp [hji]
  · simpa [World.setCell] using h.size
  · rw [heap_setCell_other _ _ _ _ _ hne]; exact h.block k hk hne
/-- A store into a new block. -/
theorem SW.other {g : Nat} {w0 w : World} {d : Array Int} (h : SW g w0 d w) (b j : Nat) (v : Value) (hb : w0.heap.size ≤ b) (hg : g ≠ b) : SW g w0 d (w.setCell ⟨b, j, none⟩ v) := by
  refine ⟨?_, h.os, h.tape, h.output, ?_, fun k hk hne => ?_⟩
  · rw [heap_setCell_other _ _ _ _ _ hg]; exact h.row
  · simpa [World.setCell] using h.size
  · rw [heap_setCell_other _ _ _ _ _ (by omega)]; exact h.block k hk hne
theorem SW.trans {g : Nat} {w0 w1 w2 : World} {d d' : Array Int} (h : SW g w0 d w1) (k : SW g w1 d' w2) : SW g w0 d' w2 :=
  ⟨k.row, k.os.trans h.os, k.tape.trans h.tape, k.output.trans h.output, Nat.le_trans h.size k.size, fun i hi hne => (k.block i (Nat.lt_of_lt_of_le hi h.size) hne).trans (h.block i hi hne)⟩
theorem SW.self {g : Nat} {w0 w : World} {d : Array Int} (h : SW g w0 d w) : SW g w d w := ⟨h.row, rfl, rfl, rfl, Nat.le_refl _, fun _ _ _ => rfl⟩
/-- The exchange of two places. -/
theorem SW.swp {g : Nat} {w0 w : World} {d : Array Int} (h : SW g w0 d w) (i j : Nat) : SW g w0 (Sort.swp d i j) ((w.setCell ⟨g, i, none⟩ (.int .u64 d[j]!)).setCell ⟨g, j, none⟩ (.int .u64 d[i]!)) := (h.set i _).set j _
theorem SW.below {g B : Nat} {w0 w : World} {d : Array Int} (h : SW g w0 d w) (hB : B ≤ g) (hs : B ≤ w0.heap.size) : Below B w0 w :=
  ⟨h.os, h.tape, h.output, h.size, fun k hk => h.block k (by omega) (by omega)⟩

theorem nan_any (x : Int) (w : World) : Calls Ybad.prog 39 #[.int .u64 x] w fun e w' => e = .returned (.bool false) ∧ w' = w := by
  go_enter Ybad.func39, Ybad.ntmps39
  go_wp2
  go_ret
  exact ⟨by simp, rfl⟩
theorem less_any (x y : Int) (w : World) : Calls Ybad.prog 29 #[.int .u64 x, .int .u64 y] w fun e w' => e = .returned (.bool (Sort.ltInt x y)) ∧ w' = w := by
  go_enter Ybad.func29, Ybad.ntmps29
  go_wp2_with (go_at_call 39; refine (nan_any _ _).mono ?_; rintro e w' ⟨rfl, rfl⟩)
  go_ret
  exact ⟨rfl, rfl⟩
end Go.Proofs.YbulkeycDoor
