import Derived.Test.YbulkeycDoorNlaw
import Derived.Test.YbulkeycDoorLaid
import Derived.ProofKit
import Derived.OpenShut
import Derived.Deep.Slices
/- The slice of cells that came in, opened. -/
namespace Go.Proofs.YbulkeycDoor
open Go.ChangeShapes Go.WideShapes Go.ChangeAt Go.RowKit Go.Deep
set_option linter.unusedVariables false

theorem c40 : Ybad.prog.cellsOf 40 = 3 := by kernel_rfl
theorem c26 : Ybad.prog.cellsOf 26 = 1 := by kernel_rfl

theorem open_cells {H : Type} {enc : TypeId × Value → H} {W : World} {fuel : Nat} {a0 : Option Addr} {len cap : Nat} {d : DataW H} {p : List MemPlace}
    (h : DataW.trod enc Ybad.prog W 0 (fun _ => true) true fuel 22 [.slice a0 len cap] = some (d, p)) :
    ∃ F L X : Nat → Nat, (∀ i, F i < 256) ∧ (∀ i, L i < 256) ∧ (∀ i, X i < 18446744073709551616) ∧ (0 < len → ∃ b off, a0 = some ⟨b, off, none⟩ ∧ Src len F L X ⟨b, off, none⟩ W) := by
  rcases open_slice Ybad.underlying22 h with ⟨hcs, _⟩ | ⟨a, l, c, m, n, D, Pl, hcs, _, hl, hm, hmm, _, hx⟩
  · simp at hcs
    obtain ⟨rfl, rfl, rfl⟩ := hcs
    exact ⟨fun _ => 0, fun _ => 0, fun _ => 0, fun _ => Nat.zero_lt_succ _, fun _ => Nat.zero_lt_succ _, fun _ => Nat.zero_lt_succ _, fun h0 => by omega⟩
  · simp at hcs
    obtain ⟨rfl, rfl, rfl⟩ := hcs
    simp at hmm
    subst hmm
    have key : ∀ i, ∃ q : Nat × Nat × Nat, q.1 < 256 ∧ q.2.1 < 256 ∧ q.2.2 < 18446744073709551616 ∧
        (i < len → W.cell? (a.add (i * 3)) = some (.int .u8 q.1) ∧ W.cell? (a.add (i * 3 + 1)) = some (.int .u8 q.2.1) ∧ W.cell? (a.add (i * 3 + 2)) = some (.int .u64 q.2.2)) := by
      intro i
      by_cases hi : i < len
      · obtain ⟨cs', h1, h2⟩ := hx i (by omega)
        rw [c40] at h1
        obtain ⟨_, hlen, hcell⟩ := World.cells?_some h1
        obtain ⟨xs, k, hk, hxy, _, hxl, hf⟩ := DataW.trod_struct Ybad.underlying40 h2
        match xs, hxl, cs', hlen with
        | [y0, y1, y2], _, [v0, v1, v2], _ =>
          have g0 := hf 0 _ rfl
          have g1 := hf 1 _ rfl
          have g2 := hf 2 _ rfl
          simp [c5, c26] at g0 g1 g2
          have e0 := hcell 0 (by omega)
          have e1 := hcell 1 (by omega)
          have e2 := hcell 2 (by omega)
          rw [add_add] at e0 e1 e2
          obtain ⟨x, t0, _, wx⟩ := DataW.trod_int Ybad.underlying5 g0
          obtain ⟨y, t1, _, wy⟩ := DataW.trod_int Ybad.underlying5 g1
          obtain ⟨z, t2, _, wz⟩ := DataW.trod_int Ybad.underlying26 g2
          obtain ⟨n0, rfl, b0⟩ := u8_nat wx
          obtain ⟨n1, rfl, b1⟩ := u8_nat wy
          obtain ⟨n2, rfl, b2⟩ := u64_nat wz
          simp at t0 t1 t2
          subst t0 t1 t2
          exact ⟨(n0, n1, n2), b0, b1, b2, fun _ => ⟨by simpa using e0, by simpa using e1, by simpa using e2⟩⟩
      · exact ⟨(0, 0, 0), Nat.zero_lt_succ _, Nat.zero_lt_succ _, Nat.zero_lt_succ _, fun h => absurd h hi⟩
    obtain ⟨g, hg⟩ : ∃ g : Nat → Nat × Nat × Nat, ∀ i, (g i).1 < 256 ∧ (g i).2.1 < 256 ∧ (g i).2.2 < 18446744073709551616 ∧
        (i < len → W.cell? (a.add (i * 3)) = some (.int .u8 (g i).1) ∧ W.cell? (a.add (i * 3 + 1)) = some (.int .u8 (g i).2.1) ∧ W.cell? (a.add (i * 3 + 2)) = some (.int .u64 (g i).2.2)) :=
      ⟨fun i => Classical.choose (key i), fun i => Classical.choose_spec (key i)⟩
    refine ⟨fun i => (g i).1, fun i => (g i).2.1, fun i => (g i).2.2, fun i => (hg i).1, fun i => (hg i).2.1, fun i => (hg i).2.2.1, fun h0 => ?_⟩
    have h00 := ((hg 0).2.2.2 h0).1
    obtain ⟨b, off, spot⟩ := a
    have hspot : spot = none := by simpa [Addr.add] using World.cell?_spot h00
    subst hspot
    have hb : b < W.heap.size := by
      have := block_lt_of_cell h00
      simpa [Addr.add] using this
    have hc := fun i hi => (hg i).2.2.2 hi
    simp only [add_plain] at hc
    exact ⟨b, off, rfl, rfl, hb, fun i hi => (hc i hi).1, fun i hi => (hc i hi).2.1, fun i hi => (hc i hi).2.2⟩
end Go.Proofs.YbulkeycDoor
