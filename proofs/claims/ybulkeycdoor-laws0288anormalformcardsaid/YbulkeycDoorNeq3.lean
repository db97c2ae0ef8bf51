import Derived.Test.YbulkeycDoorNstep
import Derived.Test.YbulkeycDoorSrow
import Derived.Laws.Cover3
import Derived.Laws.StructEq
import Derived.ChangeKeysEq
/- Two arrays of three words; the parent of a cell is a cell. -/
namespace Go.Proofs.YbulkeycDoor
open Go.RowKit N
set_option linter.unusedVariables false

theorem eq3 (a b c x y z : Int) (w : World) : (Op.equalIn 10000 47 (.agg #[.int .u64 a, .int .u64 b, .int .u64 c]) (.agg #[.int .u64 x, .int .u64 y, .int .u64 z])).run Ybad.prog w = .ok ((a == x) && ((b == y) && (c == z))) w := by
  obtain ⟨i, hi, hsz⟩ := Option.map_eq_some_iff.1 (show (Ybad.prog.info? 26).map (fun i => i.size) = some 1 by kernel_rfl)
  have hc : Ybad.prog.cellsOf 26 = 1 := by kernel_rfl
  rw [run_equalIn_array w 9999 _ _ Ybad.underlying47 hi, hc]
  have e : List.range 3 = [0, 1, 2] := rfl
  have hu := Ybad.underlying26
  have p : ∀ (w : World) (xs : Array Value) (j : Nat) (v : Value), xs[j]? = some v → (part 26 xs j).run Ybad.prog w = .ok v w := by
    intro w xs j v hv
    simp [part, isAgg, run_underlying hu, hv]
  have q : ∀ (w : World) (a b : Int), (Op.equalIn 9999 26 (.int .u64 a) (.int .u64 b)).run Ybad.prog w = .ok (a == b) w := fun w a b => run_equalIn_int w 9998 26 .u64 .u64 a b hu
  have p0 : ∀ (a b c : Value) (w : World), (part 26 #[a, b, c] (0 * 1)).run Ybad.prog w = .ok a w := fun a b c w => p w _ _ _ rfl
  have p1 : ∀ (a b c : Value) (w : World), (part 26 #[a, b, c] (1 * 1)).run Ybad.prog w = .ok b w := fun a b c w => p w _ _ _ rfl
  have p2 : ∀ (a b c : Value) (w : World), (part 26 #[a, b, c] (2 * 1)).run Ybad.prog w = .ok c w := fun a b c w => p w _ _ _ rfl
  simp only [e, Op.eqItems, Sem.run_bind, p0, p1, p2, q, Result.andThen_ok, Sem.run_ite, Sem.run_pure]
  cases (a == x) <;> cases (b == y) <;> cases (c == z) <;> simp

theorem at3 (ad : Addr) (len cap : Nat) (h : 3 ≤ len) (w : World) : (Instr.arrayAt 47 (.slice (some ad) len cap)).run Ybad.prog w = .ok (.pointer (some ad)) w := run_arrayAt w 47 _ 3 _ len cap Ybad.underlying47 h

theorem par_okG {c : C} (h : Ok c) (hs : c.1 < 30) : Ok (par c) := by
  obtain ⟨t, ht⟩ : ∃ t, 2 * c.1 + 3 + t = 61 := ⟨61 - (2 * c.1 + 3), by omega⟩
  have e : 6 * 2 ^ 61 = A c * (8 * (6 * 2 ^ t)) := by
    show _ = 2 ^ (2 * c.1) * _
    rw [← ht, Nat.pow_add, Nat.pow_add]
    generalize 2 ^ (2 * c.1) = x
    generalize 2 ^ t = y
    rw [show 8 * (6 * y) = 6 * 2 ^ 3 * y by omega, ← Nat.mul_assoc, ← Nat.mul_assoc, ← Nat.mul_assoc, Nat.mul_comm 6 x, Nat.mul_assoc x 6]
  have h2 := h.2
  rw [e] at h2
  have h3 := Nat.le_of_mul_le_mul_left h2 (A_pos c)
  refine ⟨by show c.1 + 1 ≤ 30; omega, ?_⟩
  rw [A_par, e, Nat.mul_comm 4, Nat.mul_assoc]
  refine Nat.mul_le_mul_left _ ?_
  show 4 * (2 * (c.2 / 4) + 2) ≤ _
  generalize 6 * 2 ^ t = m at *
  omega
end Go.Proofs.YbulkeycDoor
