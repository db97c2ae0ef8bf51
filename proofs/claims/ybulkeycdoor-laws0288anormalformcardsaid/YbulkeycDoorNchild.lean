import Derived.Test.YbulkeycDoorNdesc
/- children of a cell. -/
namespace Go.Proofs.YbulkeycDoor
open Go.RowKit N
set_option linter.unusedVariables false

theorem tab_alloc {w : World} (h : Tab w) (o : Obj) (h0 : 0 < w.heap.size) : Tab (w.alloc o) := fun j hj => by
  rw [World.cell?_alloc_past _ _ _ h0]
  exact h j hj
theorem tab_pos {w : World} (h : Tab w) : 0 < w.heap.size := block_lt_of_cell (h 0 (by decide))

/-- The four children of a cell, as the array holds them. -/
def kids (p : C) : Array Int := fourAt (A p * (2 * p.2)) (A p / 4) 4
theorem kids_val (c : C) (hs : c.1 < 30) : kids (par c) = #[((idOf (sib c 0) : Nat) : Int), ((idOf (sib c 1) : Nat) : Int), ((idOf (sib c 2) : Nat) : Int), ((idOf (sib c 3) : Nat) : Int)] := by
  unfold kids
  rw [A_par]
  have e : 4 * A c / 4 = A c := by omega
  rw [e]
  have f : ∀ j, 4 * A c * (2 * (par c).2) + (2 * j + 1) * A c = idOf (sib c j) := by
    intro j
    show 4 * A c * (2 * (c.2 / 4)) + (2 * j + 1) * A c = A c * (2 * (4 * (c.2 / 4) + j) + 1)
    generalize c.2 / 4 = v
    generalize A c = a
    have e1 : 4 * a * (2 * v) = a * (8 * v) := by rw [Nat.mul_comm 4 a, Nat.mul_assoc]; congr 1; omega
    rw [e1, Nat.mul_comm _ a, ← Nat.mul_add]
    congr 1
    omega
  simp only [fourAt, f]
  rfl

set_option maxHeartbeats 1000000 in
/-- children at a cell that is no leaf. -/
theorem kids_any {p : C} (h : Ok p) (hs : 0 < p.1) (w : World) (hT : Tab w) :
    Calls Ybad.prog 16 #[.int .u64 ((idOf p : Nat) : Int)] w fun e w' => e = .returned (.agg ((kids p).map encU)) ∧ Below w.heap.size w w' := by
  obtain ⟨a, hA⟩ : ∃ a, A p = 4 * a := by
    obtain ⟨s, e⟩ : ∃ s, p.1 = s + 1 := ⟨p.1 - 1, by omega⟩
    refine ⟨2 ^ (2 * s), ?_⟩
    show 2 ^ (2 * p.1) = _
    rw [e, show 2 * (s + 1) = 2 * s + 2 by omega, Nat.pow_add]; omega
  obtain ⟨s, es⟩ : ∃ s, p.1 = s + 1 := ⟨p.1 - 1, by omega⟩
  have ea : a = 2 ^ (2 * s) := by
    have : A p = 4 * 2 ^ (2 * s) := by show 2 ^ (2 * p.1) = _; rw [es, show 2 * (s + 1) = 2 * s + 2 by omega, Nat.pow_add]; omega
    omega
  have hk : kids p = fourAt (A p * (2 * p.2)) a 4 := by unfold kids; rw [hA]; congr 1; omega
  obtain ⟨h1, h2, h3, h4⟩ := ok_lt h
  have hp1 := h.1
  have hpos := A_pos p
  have hX : idOf p = A p * (2 * p.2) + 4 * a := by rw [← hA]; unfold idOf; rw [Nat.mul_add, Nat.mul_one]; rfl
  have hL := lsbN h
  have LV : Hid (∀ w, Tab w → Calls Ybad.prog 9 #[.int .u64 ((idOf p : Nat) : Int)] w fun e w' => e = .returned (.tuple #[.int .i64 (30 - (p.1 : Int)), .bool true]) ∧ w' = w) := fun w hT => lev_any h w hT
  have T2 : Hid (Tab ((w.alloc (.cells #[.int .u64 0, .int .u64 0, .int .u64 0, .int .u64 0] 45)).alloc (.cells #[.int .u64 0, .int .u64 0, .int .u64 0, .int .u64 0] 45))) := tab_alloc (tab_alloc hT _ (tab_pos hT)) _ (by simp)
  obtain ⟨l, hl⟩ : ∃ l : Nat, l + s = 30 := ⟨30 - s, by omega⟩
  have el : (30 - (p.1 : Int) + 1) = (l : Int) := by omega
  have MK : Hid (∀ w, Calls Ybad.prog 21 #[.int .i64 (l : Int)] w fun e w' => e = .returned (.int .u64 (a : Int)) ∧ w' = w) := by
    intro w
    have := marker_any s (by omega) w
    rw [show (30 - (s : Int)) = (l : Int) by omega, ← ea] at this
    exact this
  have S0 : Hid (SQ (w.heap.size + 1) ((w.alloc (.cells #[.int .u64 0, .int .u64 0, .int .u64 0, .int .u64 0] 45)).alloc (.cells #[.int .u64 0, .int .u64 0, .int .u64 0, .int .u64 0] 45)) (fourAt (A p * (2 * p.2)) a 0) ((w.alloc (.cells #[.int .u64 0, .int .u64 0, .int .u64 0, .int .u64 0] 45)).alloc (.cells #[.int .u64 0, .int .u64 0, .int .u64 0, .int .u64 0] 45))) := by
    refine ⟨?_, rfl, rfl, rfl, Nat.le_refl _, fun _ _ _ => rfl⟩
    have := heap_alloc_new (w.alloc (.cells #[.int .u64 0, .int .u64 0, .int .u64 0, .int .u64 0] 45)) (.cells #[.int .u64 0, .int .u64 0, .int .u64 0, .int .u64 0] 45)
    simpa [fourAt, encU] using this
  have DC : Hid (Calls Ybad.prog 22 _ _ _) := desc_core (A p * (2 * p.2)) a (idOf p) (A p) l (w.heap.size + 1) _ _ S0 (by show 0 < a; omega) hA hX (by show _ < _; omega) hL MK
  have HE : Hid (kids p = fourAt (A p * (2 * p.2)) a 4) := hk
  have EL : Hid (30 - (p.1 : Int) + 1 = (l : Int)) := el
  clear es hk hX hL MK S0 ea hA h1 h2 h3 h4 hpos el
  generalize A p * (2 * p.2) = t at *
  generalize idOf p = X at *
  go_enter Ybad.func16, Ybad.ntmps16
  go_wp2_with (go_at_call 9; refine (LV.out _ T2.out).mono ?_; rintro e w' ⟨rfl, rfl⟩)
  rw [EL.out]
  refine DC.out.mono ?_
  rintro e w2 ⟨⟨v, rfl⟩, hw⟩
  have HW : Hid (SQ (w.heap.size + 1) ((w.alloc (.cells #[.int .u64 0, .int .u64 0, .int .u64 0, .int .u64 0] 45)).alloc (.cells #[.int .u64 0, .int .u64 0, .int .u64 0, .int .u64 0] 45)) (fourAt t a 4) w2) := hw
  obtain ⟨y0, y1, y2, y3, hy⟩ : ∃ y0 y1 y2 y3 : Int, fourAt t a 4 = #[y0, y1, y2, y3] := ⟨_, _, _, _, rfl⟩
  rw [hy] at hw
  have k0 : w2.cell? ⟨w.heap.size + 1, 0, none⟩ = some (.int .u64 y0) := hw.cell 0 (by simp)
  have k1 : w2.cell? ⟨w.heap.size + 1, 1, none⟩ = some (.int .u64 y1) := hw.cell 1 (by simp)
  have k2 : w2.cell? ⟨w.heap.size + 1, 2, none⟩ = some (.int .u64 y2) := hw.cell 2 (by simp)
  have k3 : w2.cell? ⟨w.heap.size + 1, 3, none⟩ = some (.int .u64 y3) := hw.cell 3 (by simp)
  have r0 : w2.heap[w.heap.size]? = some (.cells #[.int .u64 0, .int .u64 0, .int .u64 0, .int .u64 0] 45 (0, 0)) := by
    rw [hw.block w.heap.size (by simp; omega) (by omega), heap_alloc_old _ _ (by simp)]
    exact heap_alloc_new w _
  have cc : ∀ j, j < 4 → w2.cell? ⟨w.heap.size, j, none⟩ = some (.int .u64 0) := by
    intro j hj
    rw [cell_of_row w2 _ j _ 45 (0, 0) r0]
    match j, hj with
    | 0, _ => rfl
    | 1, _ => rfl
    | 2, _ => rfl
    | 3, _ => rfl
  have c0 := cc 0 (by omega)
  have c1 := cc 1 (by omega)
  have c2 := cc 2 (by omega)
  have c3 := cc 3 (by omega)
  have ff : ∀ j, w2.frozen? ⟨w.heap.size, j, none⟩ = false := fun j => frozen_of_row w2 _ j _ 45 r0
  have HY : Hid (fourAt t a 4 = #[y0, y1, y2, y3]) := hy
  clear hw hy cc r0
  go_wp2_with fail
  have BB : Below w.heap.size w w2 := (((Below.refl _ _).alloc (Nat.le_refl _) _).alloc (by simp) _).trans ⟨HW.out.os, HW.out.tape, HW.out.output, HW.out.size, fun k hk => HW.out.block k (by simp; omega) (by omega)⟩
  refine bodyPost_ret (v := .agg #[.int .u64 y0, .int .u64 y1, .int .u64 y2, .int .u64 y3]) (by simp [results, Ybad.results16, go_sem, c0, c1, c2, c3]) rfl ?_
  refine ⟨?_, (((BB.setCell (by simp) _).setCell (by simp) _).setCell (by simp) _).setCell (by simp) _⟩
  rw [HE.out, HY.out]
  simp [encU]
end Go.Proofs.YbulkeycDoor
