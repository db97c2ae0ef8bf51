import Derived.Test.YbulkeycDoorNapp
import Derived.Test.YbulkeycDoorNanc
/- appendDescendants, one level down, into an array of four. -/
namespace Go.Proofs.YbulkeycDoor
open Go.RowKit N
set_option linter.unusedVariables false

/-- w is w0 but for the block b, an array of four words that holds d; draws; new blocks. -/
structure SQ (b : Nat) (w0 : World) (d : Array Int) (w : World) : Prop where
  row : w.heap[b]? = some (.cells (d.map encU) 45 (0, 0))
  os : w.os = w0.os
  tape : w.tape = w0.tape
  output : w.output = w0.output
  size : w0.heap.size ≤ w.heap.size
  block : ∀ k, k < w0.heap.size → k ≠ b → w.heap[k]? = w0.heap[k]?
theorem SQ.lt {b : Nat} {w0 w : World} {d : Array Int} (h : SQ b w0 d w) : b < w.heap.size := (Array.getElem?_eq_some_iff.1 h.row).1
theorem SQ.cell {b : Nat} {w0 w : World} {d : Array Int} (h : SQ b w0 d w) (j : Nat) (hj : j < d.size) : w.cell? ⟨b, j, none⟩ = some (.int .u64 d[j]!) := by
  rw [cell_of_row w b j _ 45 (0, 0) h.row]
  simp [hj, encU]
theorem SQ.frozen {b : Nat} {w0 w : World} {d : Array Int} (h : SQ b w0 d w) (j : Nat) : w.frozen? ⟨b, j, none⟩ = false := frozen_of_row w b j _ 45 h.row
theorem SQ.alloc {b : Nat} {w0 w : World} {d : Array Int} (h : SQ b w0 d w) (o : Obj) : SQ b w0 d (w.alloc o) := by
  refine ⟨?_, h.os, h.tape, h.output, Nat.le_trans h.size (by simp), fun k hk hne => ?_⟩
  · rw [heap_alloc_old w o h.lt]; exact h.row
  · rw [heap_alloc_old w o (Nat.lt_of_lt_of_le hk h.size)]; exact h.block k hk hne
theorem SQ.set {b : Nat} {w0 w : World} {d : Array Int} (h : SQ b w0 d w) (j : Nat) (z : Int) : SQ b w0 (d.setIfInBounds j z) (w.setCell ⟨b, j, none⟩ (.int .u64 z)) := by
  refine ⟨?_, h.os, h.tape, h.output, ?_, fun k hk hne => ?_⟩
  · rw [heap_setCell_same w b j _ 45 _ h.row]
    congr 2
    apply Array.ext_getElem?
    intro i
    simp only [Array.getElem?_map, Array.getElem?_setIfInBounds]
    by_cases hji : j = i
    · subst hji
      simp [encU]
    · simp [hji]
  · simpa [World.setCell] using h.size
  · rw [heap_setCell_other _ _ _ _ _ hne]; exact h.block k hk hne

def sliceLen : Value → Nat | .slice _ n _ => n | _ => 0
/-- The array behind j rounds. -/
def fourAt (t a : Nat) : Nat → Array Int
  | 0 => #[0, 0, 0, 0]
  | j + 1 => (fourAt t a j).setIfInBounds j ((t + (2 * j + 1) * a : Nat) : Int)
theorem four_size (t a : Nat) : ∀ j, (fourAt t a j).size = 4
  | 0 => rfl
  | j + 1 => by rw [fourAt, Array.size_setIfInBounds, four_size t a j]

theorem marker_any (s : Nat) (hs : s ≤ 30) (w : World) : Calls Ybad.prog 21 #[.int .i64 (30 - (s : Int))] w fun e w' => e = .returned (.int .u64 ((2 ^ (2 * s) : Nat) : Int)) ∧ w' = w := by
  obtain ⟨l, hl⟩ : ∃ l : Nat, l + s = 30 := ⟨30 - s, by omega⟩
  have el : (30 - (s : Int)) = (l : Int) := by omega
  have e2 : 2 * s = 2 * (30 - l) := by omega
  rw [el, e2]
  have hle : 2 ^ (2 * (30 - l)) ≤ 2 ^ 60 := Nat.pow_le_pow_right (by omega) (by omega)
  have w1 : IntKind.u64.wrap ((2 : Int) ^ (2 * (30 - l))) = ((2 ^ (2 * (30 - l)) : Nat) : Int) := by
    rw [show ((2 : Int) ^ (2 * (30 - l))) = ((2 ^ (2 * (30 - l)) : Nat) : Int) by push_cast; rfl, wrapN _ (by omega)]
  have W1 : Hid _ := w1
  have hl30 : l ≤ 30 := by omega
  clear w1 el e2 hle
  go_enter Ybad.func21, Ybad.ntmps21
  go_wp2
  go_ret
  refine ⟨?_, rfl⟩
  show Ending.returned (.int .u64 _) = _
  rw [W1.out]

set_option maxHeartbeats 1000000 in
theorem desc_core (t a X q l b : Nat) (w0 w : World) (hS : Hid (SQ b w0 (fourAt t a 0) w)) (ha : Hid (0 < a)) (hq : Hid (q = 4 * a)) (hX : Hid (X = t + 4 * a)) (hlt : Hid (t + 16 * a < 18446744073709551616))
    (hL : bits BinOp.and IntKind.u64 (X : Int) (IntKind.u64.wrap (-(X : Int))) = (q : Int))
    (hM : Hid (∀ w, Calls Ybad.prog 21 #[.int .i64 (l : Int)] w fun e w' => e = .returned (.int .u64 (a : Int)) ∧ w' = w)) :
    Calls Ybad.prog 22 #[.slice (some ⟨b, 0, none⟩) 0 4, .int .u64 (X : Int), .int .i64 (l : Int)] w fun e w' => (∃ v, e = .returned v) ∧ SQ b w0 (fourAt t a 4) w' := by
  have h1 := ha.out
  have h2 := hq.out
  have h3 := hX.out
  have h4 := hlt.out
  obtain ⟨c0, hc0⟩ : ∃ c, c = t + a := ⟨_, rfl⟩
  obtain ⟨u, hu⟩ : ∃ c, c = t + 8 * a := ⟨_, rfl⟩
  obtain ⟨m, hm⟩ : ∃ c, c = t + 7 * a := ⟨_, rfl⟩
  obtain ⟨a2, ha2⟩ : ∃ c, c = 2 * a := ⟨_, rfl⟩
  have w1 : IntKind.u64.wrap ((X : Int) - (q : Int)) = (t : Int) := by rw [IntKind.wrap_u64]; omega
  have w2 : IntKind.u64.wrap ((t : Int) + (a : Int)) = (c0 : Int) := by rw [IntKind.wrap_u64]; omega
  have w3 : IntKind.u64.wrap ((X : Int) + (q : Int)) = (u : Int) := by rw [IntKind.wrap_u64]; omega
  have w4 : IntKind.u64.wrap ((u : Int) - (a : Int)) = (m : Int) := by rw [IntKind.wrap_u64]; omega
  have w5 : IntKind.u64.wrap (2 * (a : Int)) = (a2 : Int) := by rw [IntKind.wrap_u64]; omega
  have HC : Hid (c0 = t + a) := hc0
  have HM : Hid (m = t + 7 * a) := hm
  have HA : Hid (a2 = 2 * a) := ha2
  clear h1 h2 h3 h4 hc0 hu hm ha2
  go_enter Ybad.func22, Ybad.ntmps22
  go_wp2_with (go_at_call 21; refine (hM.out _).mono ?_; rintro e w' ⟨rfl, rfl⟩)
  go_loopw [0, 9] (fun v0 v9 wr => ∃ (j c : Nat), v0 = .slice (some ⟨b, 0, none⟩) j 4 ∧ v9 = .int .u64 (c : Int) ∧ j ≤ 4 ∧ c = t + (2 * j + 1) * a ∧ SQ b w0 (fourAt t a j) wr) (fun v0 _ _ => 4 - sliceLen v0)
  case atStart => exact ⟨0, c0, rfl, rfl, by omega, by have := HC.out; omega, hS.out⟩
  case round =>
    obtain ⟨j, c, rfl, rfl, hj, hc, hw⟩ := hrel
    have HCJ : Hid (c = t + (2 * j + 1) * a) := hc
    have HW : Hid (SQ b w0 (fourAt t a j) wr) := hw
    clear hc hw
    have mm : ∀ n k : Nat, n ≤ k → n * a ≤ k * a := fun n k h => Nat.mul_le_mul_right _ h
    by_cases hj4 : j < 4
    · have b1 : c ≤ m := by
        have h1 := HCJ.out
        have h2 := HM.out
        have h3 := mm (2 * j + 1) 7 (by omega)
        omega
      obtain ⟨c', hc'⟩ : ∃ c', c' = t + (2 * (j + 1) + 1) * a := ⟨_, rfl⟩
      have w6 : IntKind.u64.wrap ((c : Int) + (a2 : Int)) = (c' : Int) := by
        have h1 := HCJ.out
        have h2 := HA.out
        have h3 := mm (2 * (j + 1) + 1) 9 (by omega)
        have h4 := hlt.out
        have h5 : (2 * (j + 1) + 1) * a = (2 * j + 1) * a + 2 * a := by rw [show 2 * (j + 1) + 1 = 2 * j + 1 + 2 by omega, Nat.add_mul]
        rw [IntKind.wrap_u64]
        omega
      have HC' : Hid (c' = t + (2 * (j + 1) + 1) * a) := hc'
      have hd : decide ((c : Int) ≤ (m : Int)) = true := by simp; omega
      have HA1 : Hid (SQ b w0 (fourAt t a j) (wr.alloc (.cells #[.int .u64 (c : Int)] 26))) := HW.out.alloc _
      have hd2 : decide (c ≤ m) = true := by simp; omega
      clear hc' mm
      go_wp2_with (at_builtin; refine append_room _ rfl _ _ rfl b j 4 1 ⟨wr.heap.size, 0, none⟩ (.int .u64 (c : Int)) rfl rfl ?c1 rfl hj4 ?c2 ?c3 ?_)
      case c1 => simp [Addr.add]
      case c2 => rw [HA1.out.cell j (by rw [four_size]; omega)]; rfl
      case c3 => exact HA1.out.frozen j
      go_wp2_with fail
      have EN : SQ b w0 (fourAt t a (j + 1)) ((wr.alloc (.cells #[.int .u64 (c : Int)] 26)).setCell ⟨b, j, none⟩ (.int .u64 (c : Int))) := by
        have h := HA1.out.set j (c : Int)
        rw [fourAt, ← HCJ.out]
        exact h
      exact ⟨⟨j + 1, c', rfl, rfl, by omega, HC'.out, EN⟩, by simp [sliceLen]; omega⟩
    · have b1 : m < c := by
        have h1 := HCJ.out
        have h2 := HM.out
        have h3 := mm 9 (2 * j + 1) (by omega)
        have h4 := ha.out
        omega
      have hd : decide ((c : Int) ≤ (m : Int)) = false := by simp; omega
      have e4 : j = 4 := by omega
      subst e4
      have hd2 : decide (c ≤ m) = false := by simp; omega
      clear mm
      go_wp2_with fail
      go_ret
      exact ⟨⟨_, rfl⟩, HW.out⟩
end Go.Proofs.YbulkeycDoor
