import Derived.Test.YbulkeycDoorChildren
import Derived.Test.YbulkeycDoorLaid
import Derived.Test.YbulkeycDoorTie
import Derived.Test.YbulkeycDoorCards
import Derived.WalkSmall
namespace Go.Proofs.YbulkeycDoor
open Go.ChangeShapes Go.WideShapes Go.ChangeAt Go.RowKit
set_option linter.unusedVariables false

namespace Children
set_option maxRecDepth 100000 in
theorem lifted (os : Os) (started : os.Started) (H : Type) (enc : TypeId × Value → H) :
    ReturnsInHanded {} Ybad.checked os 5 .any (fun w args => (Rows.lawS0288BChildrenSpec.pre enc Ybad.prog Ybad.f5 [] false w args ∧ laidMetH Ybad.prog laid3 w) ∧ sizedMet enc Ybad.prog Ybad.f5 (OpenSpec.ofChange Rows.lawS0288BChildrenSpec) false w args)
      (Rows.lawS0288BChildrenSpec.post enc Ybad.prog Ybad.f5 false true false false) := by
  refine returnsInHanded_of_change_and (C := Ybad.checked) (X := fun w _ => laidMetH Ybad.prog laid3 w) (fun _ _ _ hh h => h.of_heap hh) own started (by kernel_rfl) Ybad.func5
    (ChangeSpec.witness_shaped (enc := enc) (C := Ybad.checked) (os := os) (X := fun w _ => laidMetH Ybad.prog laid3 w) false (World.doorLaid Ybad.prog 400 os) #[.int .u8 0, .int .u8 0, .int .u64 0] 8 rfl (World.shaped_of_RefB (by kernel_rfl) (by kernel_rfl)) (by kernel_rfl) (by kernel_rfl) (by kernel_rfl) (door_met3 os _)) ?_
  intro W base args ds gs before hval0 hW _ _ hL _
  have hval : ∀ (j : Nat) t v, Ybad.f5.params[j]? = some t → args[j]? = some v → Value.okWide Ybad.prog W .any base t v := hval0
  have hW' := hW
  obtain ⟨p, q, hA0, hV, rfl, hfz, hnd⟩ := hW
  have hA : DataW.TrodAll enc Ybad.prog W 0 (fun _ => true) true Ybad.f5.params.toList args.toList ds p := hA0
  rw [Ybad.params5] at hA hval
  obtain ⟨v0, v1, v2, d0, d1, d2, p0, p1, p2, rfl, rfl, rfl, h0, h1, h2⟩ := trodAll_three hA
  obtain ⟨x0, rfl, rfl, rfl, w0⟩ := open_int Ybad.underlying5 (hval 0 5 v0 rfl rfl) h0
  obtain ⟨x1, rfl, rfl, rfl, w1⟩ := open_int Ybad.underlying5 (hval 1 5 v1 rfl rfl) h1
  obtain ⟨x2, rfl, rfl, rfl, w2⟩ := open_int Ybad.underlying26 (hval 2 26 v2 rfl rfl) h2
  obtain ⟨n0, rfl, b0⟩ := u8_nat w0
  obtain ⟨n1, rfl, b1⟩ := u8_nat w1
  obtain ⟨n2, rfl, b2⟩ := u64_nat w2
  obtain ⟨m0, m1, m2⟩ := of_laid3 hL
  obtain ⟨c0, c1, e0, e1, e2, e3, e4, e5, e6, e7, e8, e9, rfl, _⟩ := trodVars_two hV
  clear hA0 hval0
  refine (children_walk n0 n1 n2 b0 b1 b2 W m0 m1 m2).mono fun e W' ⟨he, n, hw⟩ => ?_
  subst he; subst hw
  have bel : Below W.heap.size W (W.drewN n) := below_drewN (Below.refl _ _) n
  exact ⟨_, rfl, _, _, _, [], _, _, hW', trodAll_mk1 (shut_bool Ybad.underlying4 _), trodAll_mk3 (shut_int Ybad.underlying5 w0) (shut_int Ybad.underlying5 w1) (shut_int Ybad.underlying26 w2), Below.trodVars laidOut bel (by kernel_rfl) hV, bel.frame _, fun h => by cases h⟩

theorem row_holds : Rows.LawS0288BChildrenSaid :=
  OpenClaim.holds_of_wide 5 Ybad.f5 rfl rfl rfl rfl rfl rfl rfl ⟨rfl, rfl, rfl, rfl, rfl⟩ rfl rfl rfl rfl rfl (by kernel_rfl) Ybad.func5 (by kernel_rfl)
    (of_decide_eq_true (by kernel_rfl)) (by unfold Func.isWrapper; first | (rw [if_pos (by decide +kernel)]; kernel_rfl) | (rw [if_neg (by decide +kernel)]; exact ⟨rfl, rfl⟩))
    (fun os started H enc _ => lifted os started H enc)
end Children

theorem children_proved : Rows.LawS0288BChildrenCardSaid :=
  Claim7.holds_tied_plain_at .later [] [.data, .wider, .wider] true (true, "fa95d3b6256b219faa535f8b5b0139c38305a4c2e5446f4496d25b07db6ba6fe") false
    Children.row_holds (fun _ h => by cases h) (by kernel_rfl) (fun _ h => by cases h) lawS0288BChildren_row_tie rfl ⟨rfl, rfl⟩ (by kernel_rfl) rfl
    (fun f fn hf hfn => by
      obtain rfl : f = 5 := Option.some.inj ((show Ybad.prog.funcNamed Rows.lawS0288BChildrenRow.func = some 5 by kernel_rfl).symm.trans hf) |>.symm
      obtain rfl : fn = Ybad.f5 := (Option.some.inj (Ybad.func5.symm.trans hfn)).symm
      exact ⟨by kernel_rfl, fun j t ht => by
        rw [Ybad.params5] at ht
        have hm : t ∈ [5, 5, 26] := by simpa using Array.mem_of_getElem? ht
        have hall : ([5, 5, 26].all fun u => !Ybad.prog.wantsStandIn u) = true := by kernel_rfl
        exact (show Ybad.prog.wantsStandIn t = false by simpa using List.all_eq_true.1 hall t hm)⟩)
    (by kernel_rfl)
end Go.Proofs.YbulkeycDoor
