import Derived.Test.YbulkffcSpec
import Derived.ProofKit
import Derived.OpenShut
import Derived.Deep.SlicePairs
namespace Go.Proofs.Ybulkffc
open Go.ChangeShapes Go.WideShapes Go.ChangeAt Go.RowKit Go.Deep
set_option linter.unusedVariables false

theorem own : ownKnob Yba.prog.godebug = none := by kernel_rfl
theorem laidOut : laidOutB Yba.prog = true := by kernel_rfl
theorem cells57 : Yba.prog.cellsOf 57 = 2 := by kernel_rfl
theorem cells5 : Yba.prog.cellsOf 5 = 1 := by kernel_rfl

theorem u8_nat {x : Int} (h : (Lit.int .u8 x).wf = true) : ∃ n : Nat, x = n ∧ n < 256 := by
  simp [Lit.wf, IntKind.min, IntKind.max, IntKind.signed, IntKind.bits] at h
  exact ⟨x.toNat, by omega, by omega⟩
theorem u16_nat {x : Int} (h : (Lit.int .u16 x).wf = true) : ∃ n : Nat, x = n ∧ n < 65536 := by
  simp [Lit.wf, IntKind.min, IntKind.max, IntKind.signed, IntKind.bits] at h
  exact ⟨x.toNat, by omega, by omega⟩

/-- What the walk is told of the slice of drawn tokens that came in. -/
theorem open_toks {H : Type} {enc : TypeId × Value → H} {W : World} {fuel : Nat} {a0 : Option Addr} {len cap : Nat} {d : DataW H} {p : List MemPlace}
    (h : DataW.trod enc Yba.prog W 0 (fun _ => true) true fuel 22 [.slice a0 len cap] = some (d, p)) :
    len ≤ 9223372036854775807 ∧ ∃ kd tx : Nat → Nat, (∀ i, kd i < 256) ∧ (∀ i, tx i < 256) ∧
      (0 < len → ∃ b off, a0 = some ⟨b, off, none⟩ ∧ b < W.heap.size ∧ ∀ i, i < len → W.cell? ⟨b, off + i * 2, none⟩ = some (.int .u8 (kd i)) ∧ W.cell? ⟨b, off + i * 2 + 1, none⟩ = some (.int .u8 (tx i))) := by
  rcases open_slice_pairs Yba.underlying22 Yba.underlying57 cells57 rfl rfl cells5 cells5 h with ⟨hcs, _⟩ | ⟨a, l, c, m, n, V0, V1, D0, D1, P0, P1, hcs, _, hl, hm, hmm, _, hel⟩
  · simp at hcs
    obtain ⟨rfl, rfl, rfl⟩ := hcs
    exact ⟨by omega, fun _ => 0, fun _ => 0, fun _ => Nat.zero_lt_succ _, fun _ => Nat.zero_lt_succ _, fun h0 => by omega⟩
  · simp at hcs
    obtain ⟨rfl, rfl, rfl⟩ := hcs
    simp at hmm
    subst hmm
    unfold maxLen at hm
    have key : ∀ i, ∃ kt : Nat × Nat, kt.1 < 256 ∧ kt.2 < 256 ∧ (i < len → W.cell? (a.add (i * 2)) = some (.int .u8 kt.1) ∧ W.cell? (a.add (i * 2 + 1)) = some (.int .u8 kt.2)) := by
      intro i
      by_cases hi : i < len
      · obtain ⟨h1, h2, h3, h4⟩ := hel i (by omega)
        obtain ⟨x, e1, _, wx⟩ := DataW.trod_int Yba.underlying5 h3
        obtain ⟨y, e2, _, wy⟩ := DataW.trod_int Yba.underlying5 h4
        obtain ⟨n1, rfl, b1⟩ := u8_nat wx
        obtain ⟨n2, rfl, b2⟩ := u8_nat wy
        simp at e1 e2
        exact ⟨(n1, n2), b1, b2, fun _ => ⟨by rw [h1, e1], by rw [h2, e2]⟩⟩
      · exact ⟨(0, 0), by omega, by omega, fun h => absurd h hi⟩
    obtain ⟨g, hg⟩ : ∃ g : Nat → Nat × Nat, ∀ i, (g i).1 < 256 ∧ (g i).2 < 256 ∧ (i < len → W.cell? (a.add (i * 2)) = some (.int .u8 (g i).1) ∧ W.cell? (a.add (i * 2 + 1)) = some (.int .u8 (g i).2)) :=
      ⟨fun i => Classical.choose (key i), fun i => Classical.choose_spec (key i)⟩
    refine ⟨by omega, fun i => (g i).1, fun i => (g i).2, fun i => (hg i).1, fun i => (hg i).2.1, fun h0 => ?_⟩
    have h00 := ((hg 0).2.2 h0).1
    obtain ⟨b, off, spot⟩ := a
    have hspot : spot = none := by simpa [Addr.add] using World.cell?_spot h00
    subst hspot
    have hb : b < W.heap.size := by
      have := block_lt_of_cell h00
      simpa [Addr.add] using this
    refine ⟨b, off, rfl, hb, fun i hi => ?_⟩
    have := (hg i).2.2 hi
    rw [add_plain, add_plain] at this
    exact this

namespace BSpec
set_option maxRecDepth 100000 in
theorem lifted (os : Os) (started : os.Started) (H : Type) (enc : TypeId × Value → H) :
    ReturnsInHanded {} Yba.checked os 3 .any (Rows.lawS0301BSpecSpec.pre6 enc Yba.prog Yba.f3 Rows.lawS0301BSpecRow.domain false) (Rows.lawS0301BSpecSpec.post enc Yba.prog Yba.f3 false true false false) := by
  refine returnsInHanded_of_change (C := Yba.checked) own started (by kernel_rfl) Yba.func3
    (ChangeSpec.witness6 (enc := enc) (C := Yba.checked) false ⟨#[], #[.slice none 0 0, .int .u16 0, .int .u16 0], []⟩ 8 (by kernel_rfl) (by kernel_rfl) (by kernel_rfl) (by kernel_rfl)) ?_
  intro W base args ds gs before hval0 hW hcnd _
  have hval : ∀ (j : Nat) t v, Yba.f3.params[j]? = some t → args[j]? = some v → Value.okWide Yba.prog W .any base t v := hval0
  have hW' := hW
  obtain ⟨p, q, hA0, hV, rfl, hfz, hnd⟩ := hW
  have hA : DataW.TrodAll enc Yba.prog W 0 (fun _ => true) true Yba.f3.params.toList args.toList ds p := hA0
  rw [Yba.params3] at hA hval
  obtain ⟨v0, v1, v2, d0, d1, d2, p0, p1, p2, rfl, rfl, rfl, h0, h1, h2⟩ := trodAll_three hA
  obtain ⟨rfl, rfl⟩ := trodVars_none hV
  obtain ⟨a0, len0, cap0, rfl⟩ := okWide_slice Yba.underlying22 (hval 0 22 v0 rfl rfl)
  have k0 := h0
  have lt0 : ∀ x ∈ p0, x.block < W.heap.size := by obtain ⟨m, hm⟩ := k0; exact DataW.trod_lt m _ _ _ hm
  obtain ⟨hm, kd, tx, hk, ht, hc⟩ : len0 ≤ 9223372036854775807 ∧ ∃ kd tx : Nat → Nat, (∀ i, kd i < 256) ∧ (∀ i, tx i < 256) ∧
      (0 < len0 → ∃ b off, a0 = some ⟨b, off, none⟩ ∧ b < W.heap.size ∧ ∀ i, i < len0 → W.cell? ⟨b, off + i * 2, none⟩ = some (.int .u8 (kd i)) ∧ W.cell? ⟨b, off + i * 2 + 1, none⟩ = some (.int .u8 (tx i))) := by
    obtain ⟨fuel, hf⟩ := h0
    exact open_toks hf
  obtain ⟨x1, rfl, rfl, rfl, w1⟩ := open_int Yba.underlying23 (hval 1 23 v1 rfl rfl) h1
  obtain ⟨x2, rfl, rfl, rfl, w2⟩ := open_int Yba.underlying23 (hval 2 23 v2 rfl rfl) h2
  obtain ⟨n1, rfl, b1⟩ := u16_nat w1
  obtain ⟨n2, rfl, b2⟩ := u16_nat w2
  clear hA0 hval0
  refine (spec_walk a0 len0 cap0 n1 n2 kd tx W hm b1 b2 hk ht hc).mono fun e W' ⟨he, bel⟩ => ?_
  subst he
  exact ⟨_, rfl, _, _, _, [], _, [], hW', trodAll_mk1 (shut_bool Yba.underlying4 _), trodAll_mk3 (Below.trod laidOut (by kernel_rfl) (of_decide_eq_true (by kernel_rfl)) k0 bel lt0) (shut_int Yba.underlying23 w1) (shut_int Yba.underlying23 w2), rfl, bel.frame _, fun h => by cases h⟩

/-- THE STATEMENT -/
theorem proved : Rows.LawS0301BSpecSaid :=
  OpenClaim.holds_of_wide 3 Yba.f3 rfl rfl rfl rfl rfl rfl rfl ⟨rfl, rfl, rfl, rfl, rfl⟩ rfl rfl rfl rfl rfl (by kernel_rfl) Yba.func3 (by kernel_rfl)
    (of_decide_eq_true (by kernel_rfl)) (by unfold Func.isWrapper; first | (rw [if_pos (by decide +kernel)]; kernel_rfl) | (rw [if_neg (by decide +kernel)]; exact ⟨rfl, rfl⟩))
    (fun os started H enc _ => lifted os started H enc)
end BSpec
end Go.Proofs.Ybulkffc
