import Derived.Test.YbulkeycDoorSinv
import Derived.Deep.DeepCutAuto
import Derived.Deep.CutBlock
/- slices.partitionOrdered at words of 64 bits. -/
namespace Go.Proofs.YbulkeycDoor
open Go.RowKit
set_option linter.unusedVariables false

set_option maxHeartbeats 4000000 in
set_option maxRecDepth 100000 in
theorem prt_z (z g a b p : Nat) (d : Array Int) (w0 w : World) (hz : Hid (z = 0)) (hS : Hid (SW g w0 d w)) (hap : a ≤ p) (hpb : p < b) (hb : b ≤ d.size) (hsz : d.size ≤ 100000) (cap : Nat) :
    Calls Ybad.prog 31 #[.slice (some ⟨g, z, none⟩) d.size cap, .int .i64 a, .int .i64 b, .int .i64 p] w fun e w' =>
      ∃ (mid : Nat) (ok : Bool) (d' : Array Int), e = .returned (.tuple #[.int .i64 mid, .bool ok]) ∧ SW g w0 d' w' ∧ Parted d a b mid d' := by
  obtain ⟨G, hG⟩ : ∃ G : Nat → Int, ∀ t, d[t]! = G t := ⟨fun t => d[t]!, fun _ => rfl⟩
  have hcw : ∀ t, t < d.size → w.cell? ⟨g, z + t, none⟩ = some (.int .u64 (G t)) := fun t ht => by
    rw [hz.out, Nat.zero_add, hS.out.cell t (by omega), hG]
  have hfw : ∀ t, t < d.size → w.frozen? ⟨g, z + t, none⟩ = false := fun t ht => hS.out.frozen _
  have HG : Hid (∀ t, d[t]! = G t) := hG
  clear hG
  go_enter Ybad.func31, Ybad.ntmps31
  go_upto_region 1 with fail
  go_cut [] (fun wx => SW g w0 (Sort.swp d a p) wx)
  case first =>
    by_cases e : a = p
    · subst e
      go_region
      all_goals (go_wp2_with fail; go_meet)
      all_goals first
        | exact (hS.out.drewN _).exch a a (by rw [hz.out]; omega) (by rw [hz.out]; omega) (by rw [HG.out]) (by rw [HG.out])
        | exact (hS.out.exch a a (by rw [hz.out]; omega) (by rw [hz.out]; omega) (by rw [HG.out]) (by rw [HG.out])).drew
    · have e' : a < p := by omega
      go_region
      all_goals (go_wp2_with fail; go_meet)
      all_goals first
        | exact (hS.out.drewN _).exch a p (by rw [hz.out]; omega) (by rw [hz.out]; omega) (by rw [HG.out]) (by rw [HG.out])
        | exact (hS.out.exch a p (by rw [hz.out]; omega) (by rw [hz.out]; omega) (by rw [HG.out]) (by rw [HG.out])).drew
  case rest =>
    have H1 : Hid (SW g w0 (Sort.swp d a p) wc) := hcut
    clear hcut hcw hfw HG G
    obtain ⟨i, hi⟩ : ∃ i, i = a + 1 := ⟨_, rfl⟩
    obtain ⟨j, hj⟩ : ∃ j, j = b - 1 := ⟨_, rfl⟩
    obtain ⟨dk, hdk⟩ : ∃ dk, dk = Sort.swp d a p := ⟨_, rfl⟩
    have HW : Hid (SW g w0 dk wc) := by rw [hdk]; exact H1.out
    have HI : Hid (Inv Sort.ltInt p d a b i j dk) := by rw [hdk, hi, hj]; exact Inv.start hap hpb hb
    have ai := HI.out.ai
    have ij := HI.out.ij
    have jb := HI.out.jb
    have sk := HI.out.size
    have hi2 : (a : Int) + 1 = (i : Int) := by omega
    have hj2 : (b : Int) - 1 = (j : Int) := by omega
    obtain ⟨G, hG⟩ : ∃ G : Nat → Int, ∀ t, dk[t]! = G t := ⟨fun t => dk[t]!, fun _ => rfl⟩
    have HG : Hid (∀ t, dk[t]! = G t) := hG
    clear hG hi hj hdk H1
    go_upto_block 0 with fail
    go_cut [10] (fun vi wx => ∃ i' : Nat, vi = .int .i64 i' ∧ i ≤ i' ∧ SW g w0 dk wx ∧ Inv Sort.ltInt p d a b i' j dk ∧ (j < i' ∨ Sort.ltInt (G i') (G a) = false))
    case first =>
      go_wp2_with fail
      go_loopw [10] (fun vi wr => ∃ i' : Nat, vi = .int .i64 i' ∧ i ≤ i' ∧ SW g w0 dk wr ∧ Inv Sort.ltInt p d a b i' j dk) (fun vi _ => j + 1 - (intOf vi).toNat)
      case atStart => exact ⟨i, by first | rfl | go_num | (congr 1; omega), Nat.le_refl _, HW.out, HI.out⟩
      case round =>
        obtain ⟨i', rfl, hii, hw, hI⟩ := hrel
        have HW2 : Hid (SW g w0 dk wr) := hw
        have HI2 : Hid (Inv Sort.ltInt p d a b i' j dk) := hI
        have ij' := hI.ij
        have hcw : ∀ t, t < d.size → wr.cell? ⟨g, z + t, none⟩ = some (.int .u64 (G t)) := fun t ht => by
          rw [hz.out, Nat.zero_add, hw.cell t (by omega), HG.out]
        clear hw hI
        by_cases h1 : i' ≤ j
        · have hd : decide ((i' : Int) ≤ (j : Int)) = true := by simp; omega
          go_wp2_with fail
          go_quiet (first | (go_at_call 29; refine Calls.quiet_of_same (less_any _ _ _)))
          go_wp2_with fail
          · have hq : Sort.ltInt (G i') (G a) = true := by assumption
            exact ⟨⟨i' + 1, by go_num, by omega, HW2.out.drewN _, HI2.out.goUp h1 (by rw [HG.out, HG.out]; exact hq)⟩, by simp [intOf]; omega⟩
          · have hq : Sort.ltInt (G i') (G a) = false := by assumption
            go_meet
            exact ⟨i', rfl, hii, HW2.out.drewN _, HI2.out, .inr hq⟩
        · have hd : decide ((i' : Int) ≤ (j : Int)) = false := by simp; omega
          go_wp2_with fail
          go_quiet (first | (go_at_call 29; refine Calls.quiet_of_same (less_any _ _ _)))
          go_wp2_with fail
          go_meet
          exact ⟨i', rfl, hii, HW2.out.drewN _, HI2.out, .inl (by omega)⟩
    case rest =>
      obtain ⟨i', rfl, hii, hw, hI, hst⟩ := hcut
      have HW2 : Hid (SW g w0 dk wc) := hw
      have HI2 : Hid (Inv Sort.ltInt p d a b i' j dk) := hI
      have ij' := hI.ij
      have ai' := hI.ai
      have HS2 : Hid (j < i' ∨ Sort.ltInt (G i') (G a) = false) := hst
      clear hw hI hst HW HI ai ij
      go_upto_block 2 with fail
      go_cut [11] (fun vj wx => ∃ j' : Nat, vj = .int .i64 j' ∧ j' ≤ j ∧ SW g w0 dk wx ∧ Inv Sort.ltInt p d a b i' j' dk ∧ (j' < i' ∨ Sort.ltInt (G j') (G a) = true))
      case first =>
        go_wp2_with fail
        go_loopw [11] (fun vj wr => ∃ j' : Nat, vj = .int .i64 j' ∧ j' ≤ j ∧ SW g w0 dk wr ∧ Inv Sort.ltInt p d a b i' j' dk) (fun vj _ => (intOf vj).toNat + 1 - i')
        case atStart => exact ⟨j, by first | rfl | go_num | (congr 1; omega), Nat.le_refl _, HW2.out, HI2.out⟩
        case round =>
          obtain ⟨j', rfl, hjj, hw, hI⟩ := hrel
          have HW3 : Hid (SW g w0 dk wr) := hw
          have HI3 : Hid (Inv Sort.ltInt p d a b i' j' dk) := hI
          have ij3 := hI.ij
          have hcw : ∀ t, t < d.size → wr.cell? ⟨g, z + t, none⟩ = some (.int .u64 (G t)) := fun t ht => by
            rw [hz.out, Nat.zero_add, hw.cell t (by omega), HG.out]
          clear hw hI
          by_cases h1 : i' ≤ j'
          · have hd : decide ((i' : Int) ≤ (j' : Int)) = true := by simp; omega
            go_wp2_with fail
            go_quiet (first | (go_at_call 29; refine Calls.quiet_of_same (less_any _ _ _)))
            go_wp2_with fail
            · have hq : (!Sort.ltInt (G j') (G a)) = true := by assumption
              exact ⟨⟨j' - 1, by congr 1; omega, by omega, HW3.out.drewN _, HI3.out.goDown h1 (by rw [HG.out, HG.out]; simpa using hq)⟩, by simp [intOf]; omega⟩
            · have hq : (!Sort.ltInt (G j') (G a)) = false := by assumption
              go_meet
              exact ⟨j', rfl, hjj, HW3.out.drewN _, HI3.out, .inr (by simpa using hq)⟩
          · have hd : decide ((i' : Int) ≤ (j' : Int)) = false := by simp; omega
            go_wp2_with fail
            go_quiet (first | (go_at_call 29; refine Calls.quiet_of_same (less_any _ _ _)))
            go_wp2_with fail
            go_meet
            exact ⟨j', rfl, hjj, HW3.out.drewN _, HI3.out, .inl (by omega)⟩
      case rest =>
        obtain ⟨j', rfl, hjj, hw, hI, hst⟩ := hcut
        have HW3 : Hid (SW g w0 dk wc) := hw
        have HI3 : Hid (Inv Sort.ltInt p d a b i' j' dk) := hI
        have ij3 := hI.ij
        have jb3 := hI.jb
        have hcw : ∀ t, t < d.size → wc.cell? ⟨g, z + t, none⟩ = some (.int .u64 (G t)) := fun t ht => by
          rw [hz.out, Nat.zero_add, hw.cell t (by omega), HG.out]
        have hfw : ∀ t, t < d.size → wc.frozen? ⟨g, z + t, none⟩ = false := fun t ht => hw.frozen _
        by_cases h1 : j' < i'
        · clear hw hI hst
          have HP : Hid (Parted d a b j' (Sort.swp dk j' a)) := HI3.out.parted hb h1
          by_cases e : j' = a
          · subst e
            go_wp2_with fail
            go_region
            all_goals go_wp2_with fail
            all_goals go_ret2
            all_goals exact ⟨_, _, _, rfl, (HW3.out.exch _ _ (by rw [hz.out]; omega) (by rw [hz.out]; omega) (by rw [HG.out]) (by rw [HG.out])).drew, HP.out⟩
          · have e' : a < j' := by omega
            go_wp2_with fail
            go_region
            all_goals go_wp2_with fail
            all_goals go_ret2
            all_goals exact ⟨_, _, _, rfl, (HW3.out.exch _ _ (by rw [hz.out]; omega) (by rw [hz.out]; omega) (by rw [HG.out]) (by rw [HG.out])).drew, HP.out⟩
        · have e1 : Sort.ltInt (G i') (G a) = false := by
            rcases HS2.out with h | h
            · omega
            · exact h
          have e2 : Sort.ltInt (G j') (G a) = true := by
            rcases hst with h | h
            · omega
            · exact h
          rw [← HG.out, ← HG.out] at e1 e2
          have hlt : i' < j' := hI.lt (by omega) e1 e2
          have HN : Hid (Inv Sort.ltInt p d a b (i' + 1) (j' - 1) (Sort.swp dk i' j')) := hI.swap hb hlt e1 e2
          clear hw hI hst e1 e2
          go_wp2_with fail
          go_region
          all_goals go_wp2_with fail
          have H4 : Hid (SW g w0 (Sort.swp dk i' j') ((wc.setCell ⟨g, z + i', none⟩ (.int .u64 (G j'))).setCell ⟨g, z + j', none⟩ (.int .u64 (G i'))).drew) := (HW3.out.exch i' j' (by rw [hz.out]; omega) (by rw [hz.out]; omega) (by rw [HG.out]) (by rw [HG.out])).drew
          clear hcw hfw
          go_loopw [10, 11] (fun vi vj wr => ∃ (i j : Nat) (dk : Array Int), vi = .int .i64 i ∧ vj = .int .i64 j ∧ SW g w0 dk wr ∧ Inv Sort.ltInt p d a b i j dk) (fun vi vj _ => (intOf vj).toNat + 1 - (intOf vi).toNat)
          case atStart => exact ⟨i' + 1, j' - 1, _, by go_num, by congr 1; omega, H4.out, HN.out⟩
          case round =>
            clear H4 HN HW3 HI3 HW2 HI2 HS2 HG hi2 hj2 jb sk ij' ai' ij3 jb3 h1 hlt hii hjj
            obtain ⟨i, j, dk, rfl, rfl, hw, hI⟩ := hrel
            have HW : Hid (SW g w0 dk wr) := hw
            have HI : Hid (Inv Sort.ltInt p d a b i j dk) := hI
            have ai := hI.ai
            have ij := hI.ij
            have jb := hI.jb
            have sk := hI.size
            obtain ⟨G, hG⟩ : ∃ G : Nat → Int, ∀ t, dk[t]! = G t := ⟨fun t => dk[t]!, fun _ => rfl⟩
            have HG : Hid (∀ t, dk[t]! = G t) := hG
            clear hw hI hG
            go_upto_block 6 with fail
            go_cut [10] (fun vi wx => ∃ i' : Nat, vi = .int .i64 i' ∧ i ≤ i' ∧ SW g w0 dk wx ∧ Inv Sort.ltInt p d a b i' j dk ∧ (j < i' ∨ Sort.ltInt (G i') (G a) = false))
            case first =>
              go_wp2_with fail
              go_loopw [10] (fun vi wr => ∃ i' : Nat, vi = .int .i64 i' ∧ i ≤ i' ∧ SW g w0 dk wr ∧ Inv Sort.ltInt p d a b i' j dk) (fun vi _ => j + 1 - (intOf vi).toNat)
              case atStart => exact ⟨i, by first | rfl | go_num | (congr 1; omega), Nat.le_refl _, HW.out, HI.out⟩
              case round =>
                obtain ⟨i', rfl, hii, hw, hI⟩ := hrel
                have HW2 : Hid (SW g w0 dk wr) := hw
                have HI2 : Hid (Inv Sort.ltInt p d a b i' j dk) := hI
                have ij' := hI.ij
                have hcw : ∀ t, t < d.size → wr.cell? ⟨g, z + t, none⟩ = some (.int .u64 (G t)) := fun t ht => by
                  rw [hz.out, Nat.zero_add, hw.cell t (by omega), HG.out]
                clear hw hI
                by_cases h1 : i' ≤ j
                · have hd : decide ((i' : Int) ≤ (j : Int)) = true := by simp; omega
                  go_wp2_with fail
                  go_quiet (first | (go_at_call 29; refine Calls.quiet_of_same (less_any _ _ _)))
                  go_wp2_with fail
                  · have hq : Sort.ltInt (G i') (G a) = true := by assumption
                    exact ⟨⟨i' + 1, by go_num, by omega, HW2.out.drewN _, HI2.out.goUp h1 (by rw [HG.out, HG.out]; exact hq)⟩, by simp [intOf]; omega⟩
                  · have hq : Sort.ltInt (G i') (G a) = false := by assumption
                    go_meet
                    exact ⟨i', rfl, hii, HW2.out.drewN _, HI2.out, .inr hq⟩
                · have hd : decide ((i' : Int) ≤ (j : Int)) = false := by simp; omega
                  go_wp2_with fail
                  go_quiet (first | (go_at_call 29; refine Calls.quiet_of_same (less_any _ _ _)))
                  go_wp2_with fail
                  go_meet
                  exact ⟨i', rfl, hii, HW2.out.drewN _, HI2.out, .inl (by omega)⟩
            case rest =>
              obtain ⟨i', rfl, hii, hw, hI, hst⟩ := hcut
              have HW2 : Hid (SW g w0 dk wc) := hw
              have HI2 : Hid (Inv Sort.ltInt p d a b i' j dk) := hI
              have ij' := hI.ij
              have ai' := hI.ai
              have HS2 : Hid (j < i' ∨ Sort.ltInt (G i') (G a) = false) := hst
              clear hw hI hst HW HI ai ij
              go_upto_block 8 with fail
              go_cut [11] (fun vj wx => ∃ j' : Nat, vj = .int .i64 j' ∧ j' ≤ j ∧ SW g w0 dk wx ∧ Inv Sort.ltInt p d a b i' j' dk ∧ (j' < i' ∨ Sort.ltInt (G j') (G a) = true))
              case first =>
                go_wp2_with fail
                go_loopw [11] (fun vj wr => ∃ j' : Nat, vj = .int .i64 j' ∧ j' ≤ j ∧ SW g w0 dk wr ∧ Inv Sort.ltInt p d a b i' j' dk) (fun vj _ => (intOf vj).toNat + 1 - i')
                case atStart => exact ⟨j, by first | rfl | go_num | (congr 1; omega), Nat.le_refl _, HW2.out, HI2.out⟩
                case round =>
                  obtain ⟨j', rfl, hjj, hw, hI⟩ := hrel
                  have HW3 : Hid (SW g w0 dk wr) := hw
                  have HI3 : Hid (Inv Sort.ltInt p d a b i' j' dk) := hI
                  have ij3 := hI.ij
                  have hcw : ∀ t, t < d.size → wr.cell? ⟨g, z + t, none⟩ = some (.int .u64 (G t)) := fun t ht => by
                    rw [hz.out, Nat.zero_add, hw.cell t (by omega), HG.out]
                  clear hw hI
                  by_cases h1 : i' ≤ j'
                  · have hd : decide ((i' : Int) ≤ (j' : Int)) = true := by simp; omega
                    go_wp2_with fail
                    go_quiet (first | (go_at_call 29; refine Calls.quiet_of_same (less_any _ _ _)))
                    go_wp2_with fail
                    · have hq : (!Sort.ltInt (G j') (G a)) = true := by assumption
                      exact ⟨⟨j' - 1, by congr 1; omega, by omega, HW3.out.drewN _, HI3.out.goDown h1 (by rw [HG.out, HG.out]; simpa using hq)⟩, by simp [intOf]; omega⟩
                    · have hq : (!Sort.ltInt (G j') (G a)) = false := by assumption
                      go_meet
                      exact ⟨j', rfl, hjj, HW3.out.drewN _, HI3.out, .inr (by simpa using hq)⟩
                  · have hd : decide ((i' : Int) ≤ (j' : Int)) = false := by simp; omega
                    go_wp2_with fail
                    go_quiet (first | (go_at_call 29; refine Calls.quiet_of_same (less_any _ _ _)))
                    go_wp2_with fail
                    go_meet
                    exact ⟨j', rfl, hjj, HW3.out.drewN _, HI3.out, .inl (by omega)⟩
              case rest =>
                obtain ⟨j', rfl, hjj, hw, hI, hst⟩ := hcut
                have HW3 : Hid (SW g w0 dk wc) := hw
                have HI3 : Hid (Inv Sort.ltInt p d a b i' j' dk) := hI
                have ij3 := hI.ij
                have jb3 := hI.jb
                have hcw : ∀ t, t < d.size → wc.cell? ⟨g, z + t, none⟩ = some (.int .u64 (G t)) := fun t ht => by
                  rw [hz.out, Nat.zero_add, hw.cell t (by omega), HG.out]
                have hfw : ∀ t, t < d.size → wc.frozen? ⟨g, z + t, none⟩ = false := fun t ht => hw.frozen _
                by_cases h1 : j' < i'
                · clear hw hI hst
                  have HP : Hid (Parted d a b j' (Sort.swp dk j' a)) := HI3.out.parted hb h1
                  by_cases e : j' = a
                  · subst e
                    go_wp2_with fail
                    go_region
                    all_goals go_wp2_with fail
                    all_goals go_ret2
                    all_goals exact ⟨_, _, _, rfl, (HW3.out.exch _ _ (by rw [hz.out]; omega) (by rw [hz.out]; omega) (by rw [HG.out]) (by rw [HG.out])).drew, HP.out⟩
                  · have e' : a < j' := by omega
                    go_wp2_with fail
                    go_region
                    all_goals go_wp2_with fail
                    all_goals go_ret2
                    all_goals exact ⟨_, _, _, rfl, (HW3.out.exch _ _ (by rw [hz.out]; omega) (by rw [hz.out]; omega) (by rw [HG.out]) (by rw [HG.out])).drew, HP.out⟩
                · have e1 : Sort.ltInt (G i') (G a) = false := by
                    rcases HS2.out with h | h
                    · omega
                    · exact h
                  have e2 : Sort.ltInt (G j') (G a) = true := by
                    rcases hst with h | h
                    · omega
                    · exact h
                  rw [← HG.out, ← HG.out] at e1 e2
                  have hlt : i' < j' := hI.lt (by omega) e1 e2
                  have HN : Hid (Inv Sort.ltInt p d a b (i' + 1) (j' - 1) (Sort.swp dk i' j')) := hI.swap hb hlt e1 e2
                  clear hw hI hst e1 e2
                  go_wp2_with fail
                  go_region
                  all_goals go_wp2_with fail
                  exact ⟨⟨i' + 1, j' - 1, _, by go_num, by congr 1; omega, (HW3.out.exch i' j' (by rw [hz.out]; omega) (by rw [hz.out]; omega) (by rw [HG.out]) (by rw [HG.out])).drew, HN.out⟩, by simp [intOf]; omega⟩
end Go.Proofs.YbulkeycDoor
