import Derived.Test.YbulkeycDoorFace
import Derived.ProofKit
import Derived.LaidMore
import Derived.OpenShut
import Derived.OpenVars
import Derived.Lib.LaidTab
import Derived.Stop.Joined
namespace Go.Proofs.YbulkeycDoor
open Go.ChangeShapes Go.WideShapes Go.ChangeAt Go.RowKit
set_option linter.unusedVariables false

theorem u8_nat {x : Int} (h : (Lit.int .u8 x).wf = true) : ∃ n : Nat, x = n ∧ n < 256 := by
  simp [Lit.wf, IntKind.min, IntKind.max, IntKind.signed, IntKind.bits] at h
  exact ⟨x.toNat, by omega, by omega⟩
theorem u64_nat {x : Int} (h : (Lit.int .u64 x).wf = true) : ∃ n : Nat, x = n ∧ n < 18446744073709551616 := by
  simp [Lit.wf, IntKind.min, IntKind.max, IntKind.signed, IntKind.bits] at h
  exact ⟨x.toNat, by omega, by omega⟩

theorem own : ownKnob Ybad.prog.godebug = none := by kernel_rfl
theorem laidOut : laidOutB Ybad.prog = true := by kernel_rfl
/-- The three variables' names, as the rows list them. -/
abbrev n0 : String := Rows.lawS0288BShapeRow.named.getD 0 ""
abbrev n1 : String := Rows.lawS0288BShapeRow.named.getD 1 ""
abbrev n2 : String := Rows.lawS0288BShapeRow.named.getD 2 ""
theorem g0 : Ybad.prog.globalNamed n0 = some 0 := by kernel_rfl
theorem g1 : Ybad.prog.globalNamed n1 = some 1 := by kernel_rfl
theorem g2 : Ybad.prog.globalNamed n2 = some 2 := by kernel_rfl
theorem t0 : (Ybad.prog.globals[0]?).map (·.type) = some 55 := by kernel_rfl
theorem t1 : (Ybad.prog.globals[1]?).map (·.type) = some 57 := by kernel_rfl
theorem t2 : (Ybad.prog.globals[2]?).map (·.type) = some 56 := by kernel_rfl
theorem c3 : Ybad.prog.cellsOf 3 = 1 := by kernel_rfl
theorem c5 : Ybad.prog.cellsOf 5 = 1 := by kernel_rfl
theorem c55 : Ybad.prog.cellsOf 55 = 64 := by kernel_rfl
theorem c56 : Ybad.prog.cellsOf 56 = 4 := by kernel_rfl
theorem c57 : Ybad.prog.cellsOf 57 = 16 := by kernel_rfl

def laid3 : List (String × DataW Unit) := Rows.lawS0288BShapeRow.laid
def laid1 : List (String × DataW Unit) := Rows.lawS0288ANormalFormRow.laid

theorem tab_of {W : World} {cs : Array Value} {fuel : Nat} {p : List MemPlace} (hv : W.var? Ybad.prog n0 = some cs)
    (hd : DataW.trod (fun _ => ()) Ybad.prog W 0 (fun _ => true) false fuel 55 cs.toList = some (Rows.laid_math_bits_deBruijn64tab, p)) : Tab W := by
  have h := Lib.cells_of_tab (zs := Lib.deBruijn64tab.map (fun n : Nat => (n : Int))) Ybad.underlying55 Ybad.underlying5 c5 c55 hd
  intro j hj
  have := World.var?_cell g0 hv j
  rw [this, ← Array.getElem?_toList, h]
  simp only [List.map_map, List.getElem?_map, List.getD]
  rw [List.getElem?_eq_getElem hj]
  rfl

theorem or_of {W : World} {cs : Array Value} {fuel : Nat} {p : List MemPlace} (hv : W.var? Ybad.prog n2 = some cs)
    (hd : DataW.trod (fun _ => ()) Ybad.prog W 0 (fun _ => true) false fuel 56 cs.toList = some (Rows.laid_example_com_orbcell_orbcell_posToOrientation, p)) : TabOr W := by
  have h := Lib.cells_of_tab (zs := [1, 0, 0, 3]) Ybad.underlying56 Ybad.underlying3 c3 c56 hd
  intro j hj
  have := World.var?_cell g2 hv j
  rw [this, ← Array.getElem?_toList, h]
  match j, hj with
  | 0, _ => rfl
  | 1, _ => rfl
  | 2, _ => rfl
  | 3, _ => rfl

def ijRow (o : Nat) : List Int := (([[0, 1, 3, 2], [0, 2, 3, 1], [3, 2, 0, 1], [3, 1, 0, 2]] : List (List Int)).getD o [])

theorem ij_of {W : World} {cs : Array Value} {fuel : Nat} {p : List MemPlace} (hv : W.var? Ybad.prog n1 = some cs)
    (hd : DataW.trod (fun _ => ()) Ybad.prog W 0 (fun _ => true) false fuel 57 cs.toList = some (Rows.laid_example_com_orbcell_orbcell_posToIJ, p)) : TabIJ W := by
  obtain ⟨xs, m, rfl, hx, hlen, hn, hel⟩ := DataW.trod_array Ybad.underlying57 hd
  rw [c57] at hlen
  rw [c56] at hel
  simp only [Prod.mk.injEq] at hx
  have hx1 := hx.1
  have row : ∀ o, o < 4 → ((cs.toList.drop (o * 4)).take 4) = (ijRow o).map fun z => Value.int .i64 z := by
    intro o ho
    have h := hel o ho
    cases hy : xs[o]? with
    | none => rw [List.getElem?_eq_none_iff] at hy; omega
    | some y =>
      rw [hy] at h
      obtain ⟨yd, yp⟩ := y
      have hyd : yd = Lib.tabData .i64 (ijRow o) := by
        have e : (DataW.agg (xs.map (·.1))) = (Rows.laid_example_com_orbcell_orbcell_posToIJ : DataW Unit) := hx1.symm
        unfold Rows.laid_example_com_orbcell_orbcell_posToIJ at e
        simp only [DataW.agg.injEq] at e
        have e2 := congrArg (·[o]?) e
        simp only [List.getElem?_map, hy, Option.map_some] at e2
        match o, ho with
        | 0, _ => exact (Option.some.inj e2)
        | 1, _ => exact (Option.some.inj e2)
        | 2, _ => exact (Option.some.inj e2)
        | 3, _ => exact (Option.some.inj e2)
      rw [hyd] at h
      exact Lib.cells_of_tab Ybad.underlying56 Ybad.underlying3 c3 c56 h
  intro o q ho hq
  have := World.var?_cell g1 hv (4 * o + q)
  rw [this, ← Array.getElem?_toList]
  have e := congrArg (·[q]?) (row o ho)
  simp only [List.getElem?_take, hq, if_true, List.getElem?_drop] at e
  rw [Nat.mul_comm 4 o, e]
  match o, ho, q, hq with
  | 0, _, 0, _ => rfl
  | 0, _, 1, _ => rfl
  | 0, _, 2, _ => rfl
  | 0, _, 3, _ => rfl
  | 1, _, 0, _ => rfl
  | 1, _, 1, _ => rfl
  | 1, _, 2, _ => rfl
  | 1, _, 3, _ => rfl
  | 2, _, 0, _ => rfl
  | 2, _, 1, _ => rfl
  | 2, _, 2, _ => rfl
  | 2, _, 3, _ => rfl
  | 3, _, 0, _ => rfl
  | 3, _, 1, _ => rfl
  | 3, _, 2, _ => rfl
  | 3, _, 3, _ => rfl

theorem of_laid3 {W : World} (h : laidMetH Ybad.prog laid3 W) : Tab W ∧ TabIJ W ∧ TabOr W := by
  rw [MakeChecks.laidMetH_plain _ _ _ (by kernel_rfl)] at h
  obtain ⟨ps, ⟨a0, b0, cs0, f0, p0, q0, hg0, ht0, hv0, hd0, ⟨a1, b1, cs1, f1, p1, q1, hg1, ht1, hv1, hd1, ⟨a2, b2, cs2, f2, p2, q2, hg2, ht2, hv2, hd2, _, _⟩, _⟩, _⟩, _, _⟩ := h
  obtain rfl := Option.some.inj (g0.symm.trans hg0)
  obtain rfl := Option.some.inj (g1.symm.trans hg1)
  obtain rfl := Option.some.inj (g2.symm.trans hg2)
  obtain rfl := Option.some.inj (t0.symm.trans ht0)
  obtain rfl := Option.some.inj (t1.symm.trans ht1)
  obtain rfl := Option.some.inj (t2.symm.trans ht2)
  exact ⟨tab_of hv0 hd0, ij_of hv1 hd1, or_of hv2 hd2⟩

theorem of_laid1 {W : World} (h : laidMetH Ybad.prog laid1 W) : Tab W := by
  rw [MakeChecks.laidMetH_plain _ _ _ (by kernel_rfl)] at h
  obtain ⟨ps, ⟨a0, b0, cs0, f0, p0, q0, hg0, ht0, hv0, hd0, _, _⟩, _, _⟩ := h
  obtain rfl := Option.some.inj (g0.symm.trans hg0)
  obtain rfl := Option.some.inj (t0.symm.trans ht0)
  exact tab_of hv0 hd0

/-- The door's own heap meets the condition. -/
theorem door_met3 (os : Os) (args : Array Value) : laidMetH Ybad.prog laid3 ((World.doorLaid Ybad.prog 400 os).forCall (fun _ _ => 0) ⟨#[], args, []⟩).memory :=
  laidMetH_of_parts3 (fuel := 8) (laidMet_of_run' 8 (by kernel_rfl) (by kernel_rfl)) (by kernel_rfl) (by kernel_rfl)
theorem door_met1 (os : Os) (args : Array Value) : laidMetH Ybad.prog laid1 ((World.doorLaid Ybad.prog 400 os).forCall (fun _ _ => 0) ⟨#[], args, []⟩).memory :=
  laidMetH_of_parts3 (fuel := 8) (laidMet_of_run' 8 (by kernel_rfl) (by kernel_rfl)) (by kernel_rfl) (by kernel_rfl)
end Go.Proofs.YbulkeycDoor
