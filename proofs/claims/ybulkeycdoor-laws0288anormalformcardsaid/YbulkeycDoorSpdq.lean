import Derived.Test.YbulkeycDoorSst
import Derived.Test.YbulkeycDoorSheap
import Derived.Test.YbulkeycDoorSpeq
import Derived.Test.YbulkeycDoorSprt
import Derived.Test.YbulkeycDoorSchoose
import Derived.Test.YbulkeycDoorSbreak
import Derived.Test.YbulkeycDoorSpins
/- slices.pdqsortOrdered, slices.Sort at words of 64 bits. -/
namespace Go.Proofs.YbulkeycDoor
open Go.RowKit
open Go.Sort (PermIn SortedIn ltInt)
set_option linter.unusedVariables false

/-- What a sort of [a, b) leaves. -/
def Sorts (g : Nat) (w0 : World) (d : Array Int) (a b : Nat) (e : Ending) (w' : World) : Prop :=
  ∃ d' : Array Int, e = .returned (.tuple #[]) ∧ SW g w0 d' w' ∧ PermIn a b d d' ∧ SortedIn ltInt a b d'
def IsBool (v : Value) : Prop := ∃ c : Bool, v = .bool c
def CondB (v : Value) (p : Prop) : Prop := ∃ c : Bool, v = .bool c ∧ (c = true → p)

theorem ins_z (z g a b : Nat) (d : Array Int) (w0 w : World) (hz : Hid (z = 0)) (hS : Hid (SW g w0 d w)) (hab : a ≤ b) (hb : b ≤ d.size) (hsz : d.size ≤ 100000) (cap : Nat) :
    Calls Ybad.prog 23 #[.slice (some ⟨g, z, none⟩) d.size cap, .int .i64 a, .int .i64 b] w fun e w' =>
      e = .returned (.tuple #[]) ∧ SW g w0 (Sort.insertionSort Sort.ltInt d a b) w' := by
  have e := hz.out
  subst e
  exact ins_eq g a b d w0 w hS hab hb hsz cap

set_option maxHeartbeats 8000000 in
set_option maxRecDepth 100000 in
theorem pdq_step (z g cap n m : Nat) (hz : Hid (z = 0)) (hn : n ≤ 100000)
    (IH : Hid (∀ (a b l : Nat) (d : Array Int) (w0 w : World), b - a < m → Hid (SW g w0 d w) → d.size = n → a ≤ b → b ≤ n → Hid (Sort.Below ltInt a b d) → l ≤ 64 →
      Calls Ybad.prog 19 #[.slice (some ⟨g, z, none⟩) n cap, .int .i64 a, .int .i64 b, .int .i64 l] w fun e w' => Sorts g w0 d a b e w'))
    (a b l : Nat) (d : Array Int) (w0 w : World) (hm : b - a ≤ m) (hS : Hid (SW g w0 d w)) (hd : d.size = n) (hab : a ≤ b) (hb : b ≤ n) (hB : Hid (Sort.Below ltInt a b d)) (hl : l ≤ 64) :
    Calls Ybad.prog 19 #[.slice (some ⟨g, z, none⟩) n cap, .int .i64 a, .int .i64 b, .int .i64 l] w fun e w' => Sorts g w0 d a b e w' := by
  have hbn : b ≤ d.size := by omega
  have ST0 : Hid (St d a b a b d) := St.start hab hbn hB.out
  go_enter Ybad.func19, Ybad.ntmps19
  go_wp2_with fail
  go_loopw [1, 2, 3, 8, 9] (fun v1 v2 v3 v8 v9 wr => ∃ (a' b' l' : Nat) (dk : Array Int), v1 = .int .i64 a' ∧ v2 = .int .i64 b' ∧ v3 = .int .i64 l' ∧ l' ≤ 64 ∧ IsBool v8 ∧ IsBool v9 ∧ SW g w0 dk wr ∧ St d a b a' b' dk) (fun v1 v2 _ _ _ _ => (intOf v2).toNat - (intOf v1).toNat)
  case atStart => exact ⟨a, b, l, d, rfl, rfl, rfl, hl, ⟨true, rfl⟩, ⟨true, rfl⟩, hS.out, ST0.out⟩
  case round =>
    obtain ⟨a', b', l', dk, rfl, rfl, rfl, hl', ⟨wb, rfl⟩, ⟨wp, rfl⟩, hw, hst⟩ := hrel
    have HW : Hid (SW g w0 dk wr) := hw
    have HST : Hid (St d a b a' b' dk) := hst
    have ab' := hst.ab
    have aa' := hst.aa
    have bb' := hst.bb
    have sk : dk.size = n := by rw [hst.size, hd]
    clear hw hst ST0 hS
    by_cases h12 : b' - a' ≤ 12
    · have h12b : decide ((b' : Int) - a' ≤ 12) = true := by simp; omega
      have IN := ins_z z g a' b' dk w0 wr hz HW ab' (by omega) (by omega) cap
      rw [sk] at IN
      have I1 : Hid (Calls Ybad.prog 23 _ _ _) := IN
      clear IN
      have IS := Sort.insertionSort_holds Sort.swo_ltInt dk a' b' ab' (by omega)
      have IS' : Hid _ := IS
      clear IS
      go_wp2_with fail
      refine I1.out.mono ?_
      rintro e w' ⟨rfl, hw'⟩
      go_wp2_with fail
      refine bodyPost_ret (v := .tuple #[]) (by simp [results, Ybad.results19, go_sem]) rfl ?_
      have DN := HST.out.done IS'.out.1 IS'.out.2
      exact ⟨_, rfl, hw', DN.1, DN.2⟩
    · have h12b : decide ((b' : Int) - a' ≤ 12) = false := by simp; omega
      by_cases hl0 : l' = 0
      · subst hl0
        have IN := heap_z z g a' b' dk w0 wr hz HW (by omega) (by omega) (by omega) cap
        rw [sk] at IN
        have I1 : Hid (Calls Ybad.prog 24 _ _ _) := IN
        clear IN
        have IS := Sort.heapSort_holds Sort.swo_ltInt dk a' b' ab' (by omega)
        have IS' : Hid _ := IS
        clear IS
        go_wp2_with fail
        refine I1.out.mono ?_
        rintro e w' ⟨rfl, hw'⟩
        go_wp2_with fail
        refine bodyPost_ret (v := .tuple #[]) (by simp [results, Ybad.results19, go_sem]) rfl ?_
        have DN := HST.out.done IS'.out.1 IS'.out.2
        exact ⟨_, rfl, hw', DN.1, DN.2⟩
      · have hl0b : ((l' : Int) == 0) = false := by simp; omega
        go_upto_if 35 with fail
        go_cut [3] (fun v3 wx => ∃ (l1 : Nat) (d1 : Array Int), v3 = .int .i64 l1 ∧ l1 ≤ 64 ∧ SW g w0 d1 wx ∧ St d a b a' b' d1)
        case first =>
          cases wb with
          | true =>
            go_wp2_with fail
            go_meet
            exact ⟨l', dk, rfl, hl', HW.out, HST.out⟩
          | false =>
            have IN := brk_z z g a' b' dk w0 wr hz HW (by omega) (by omega) (by omega) cap
            rw [sk] at IN
            have I1 : Hid (Calls Ybad.prog 25 _ _ _) := IN
            clear IN
            go_wp2_with fail
            refine I1.out.mono ?_
            rintro e w1 ⟨d1, rfl, hw1, hp1⟩
            have HW1 : Hid (SW g w0 d1 w1) := hw1
            have HP1 : Hid (PermIn a' b' dk d1) := hp1
            clear hw1 hp1
            go_wp2_with fail
            go_meet
            exact ⟨l' - 1, d1, by congr 1; omega, by omega, HW1.out, HST.out.to HP1.out⟩
        case rest =>
          obtain ⟨l1, d1, rfl, hl1, hw, hst⟩ := hcut
          have HW1 : Hid (SW g w0 d1 wc) := hw
          have HST1 : Hid (St d a b a' b' d1) := hst
          have s1 : d1.size = n := by rw [hst.size, hd]
          have IN := piv_z z g a' b' d1 w0 wc hz hw (by omega) (by omega) (by omega) cap
          rw [s1] at IN
          have I1 : Hid (Calls Ybad.prog 26 _ _ _) := IN
          clear IN hw hst
          go_wp2_with fail
          refine I1.out.mono ?_
          rintro e w2 ⟨p, h, rfl, hp1, hp2, hw⟩
          have HW2 : Hid (SW g w0 d1 w2) := hw
          have IN := rev_z z g a' b' d1 w0 w2 hz hw (by omega) (by omega) (by omega) cap
          rw [s1] at IN
          have I2 : Hid (Calls Ybad.prog 27 _ _ _) := IN
          clear hw I1 HW HST IN
          go_upto_if 50 with fail
          go_cut [11, 12] (fun v11 v12 wx => ∃ (p2 h2 : Nat) (d2 : Array Int), v11 = .int .i64 p2 ∧ v12 = .int .i64 h2 ∧ a' ≤ p2 ∧ p2 < b' ∧ SW g w0 d2 wx ∧ St d a b a' b' d2)
          case first =>
            by_cases hh : h = 2
            · subst hh
              go_wp2_with fail
              refine I2.out.mono ?_
              rintro e w3 ⟨d2, rfl, hw3, hp3⟩
              have HW3 : Hid (SW g w0 d2 w3) := hw3
              have HP3 : Hid (PermIn a' b' d1 d2) := hp3
              clear hw3 hp3
              go_wp2_with fail
              go_meet
              exact ⟨(b' - 1) - (p - a'), 1, d2, by congr 1; omega, rfl, by omega, by omega, HW3.out, HST1.out.to HP3.out⟩
            · have hhb : ((h : Int) == 2) = false := by simp; omega
              go_wp2_with fail
              go_meet
              exact ⟨p, h, d1, rfl, rfl, hp1, hp2, HW2.out, HST1.out⟩
          case rest =>
            obtain ⟨p2, h2, d2, rfl, rfl, hq1, hq2, hw, hst⟩ := hcut
            have HW3 : Hid (SW g w0 d2 wc) := hw
            have HST2 : Hid (St d a b a' b' d2) := hst
            have s2 : d2.size = n := by rw [hst.size, hd]
            have IN := pins_z z g a' b' d2 w0 wc hz hw (by omega) (by omega) (by omega) cap
            rw [s2] at IN
            have I3 : Hid (Calls Ybad.prog 28 _ _ _) := IN
            have PH := Sort.partialInsertionSort_holds Sort.swo_ltInt d2 a' b' (by omega) (by omega) hst.below
            have HPH : Hid (PermIn a' b' d2 (Sort.partialInsertionSort ltInt d2 a' b').1 ∧ ((Sort.partialInsertionSort ltInt d2 a' b').2 = true → SortedIn ltInt a' b' (Sort.partialInsertionSort ltInt d2 a' b').1)) := PH
            clear hw hst IN PH HW2 HST1 I2
            go_upto_region 15 with fail
            go_cut [68] (fun v wx => IsBool v ∧ wx = wc)
            case first =>
              cases wb <;> cases wp
              all_goals go_wp2_with fail
              all_goals go_meet
              all_goals exact ⟨⟨_, rfl⟩, rfl⟩
            case rest =>
              obtain ⟨⟨c, rfl⟩, rfl⟩ := hcut
              go_upto_if 68 with fail
              go_cut [] (fun wx => ∃ d3 : Array Int, SW g w0 d3 wx ∧ St d a b a' b' d3)
              case first =>
                cases c with
                | false =>
                  go_wp2_with fail
                  go_meet
                  exact ⟨d2, HW3.out, HST2.out⟩
                | true =>
                  go_wp2_with fail
                  refine I3.out.mono ?_
                  rintro e w4 ⟨rfl, hw4⟩
                  have HW4 : Hid (SW g w0 (Sort.partialInsertionSort ltInt d2 a' b').1 w4) := hw4
                  clear hw4
                  by_cases hr : (Sort.partialInsertionSort ltInt d2 a' b').2 = true
                  · go_wp2_with fail
                    refine bodyPost_ret (v := .tuple #[]) (by simp [results, Ybad.results19, go_sem]) rfl ?_
                    have DN := HST2.out.done HPH.out.1 (HPH.out.2 hr)
                    exact ⟨_, rfl, HW4.out, DN.1, DN.2⟩
                  · have hr' : (Sort.partialInsertionSort ltInt d2 a' b').2 = false := by simpa using hr
                    go_wp2_with fail
                    go_meet
                    exact ⟨_, HW4.out, HST2.out.to HPH.out.1⟩
              case rest =>
                obtain ⟨d3, hw, hst⟩ := hcut
                have HW5 : Hid (SW g w0 d3 wc) := hw
                have HST3 : Hid (St d a b a' b' d3) := hst
                have s3 : d3.size = n := by rw [hst.size, hd]
                clear HW3 HST2 I3 HPH
                obtain ⟨F, hF⟩ : ∃ F : Nat → Int, ∀ t, d3[t]! = F t := ⟨fun t => d3[t]!, fun _ => rfl⟩
                have HF : Hid (∀ t, d3[t]! = F t) := hF
                have hcw : ∀ t, t < n → wc.cell? ⟨g, z + t, none⟩ = some (.int .u64 (F t)) := fun t ht => by
                  rw [hz.out, Nat.zero_add, hw.cell t (by omega), hF]
                have BS := fun mid d4 => below_sub (mid := mid) (d4 := d4) hst.below (by omega)
                have HBS : Hid (∀ mid d4, Parted d3 a' b' mid d4 → Sort.Below ltInt a' mid d4 ∧ Sort.Below ltInt (mid + 1) b' d4) := BS
                clear hw hst hF BS
                go_upto_region 17 with fail
                go_cut [87] (fun v wx => CondB v (0 < a' ∧ ltInt (F (a' - 1)) (F p2) = false) ∧ SW g w0 d3 wx)
                case first =>
                  by_cases ha0 : 0 < a'
                  · have ha0b : decide ((0 : Int) < a') = true := by simp; omega
                    go_quiet (first | (go_at_call 29; refine Calls.quiet_of_same (less_any _ _ _)))
                    go_wp2_with fail
                    go_meet
                    exact ⟨⟨_, rfl, fun h => ⟨ha0, by simpa using h⟩⟩, HW5.out.drewN _⟩
                  · have ha0b : decide ((0 : Int) < a') = false := by simp; omega
                    go_quiet (first | (go_at_call 29; refine Calls.quiet_of_same (less_any _ _ _)))
                    go_wp2_with fail
                    go_meet
                    exact ⟨⟨_, rfl, fun h => by simp at h⟩, HW5.out.drewN _⟩
                case rest =>
                  obtain ⟨⟨c2, rfl, hc2⟩, hw⟩ := hcut
                  have HC2 : Hid (c2 = true → 0 < a' ∧ ltInt (F (a' - 1)) (F p2) = false) := hc2
                  have IN := peq_z z g a' b' p2 d3 w0 wc hz hw hq1 hq2 (by omega) (by omega) cap
                  rw [s3] at IN
                  have I4 : Hid (Calls Ybad.prog 30 _ _ _) := IN
                  have IN2 := prt_z z g a' b' p2 d3 w0 wc hz hw hq1 hq2 (by omega) (by omega) cap
                  rw [s3] at IN2
                  have I5 : Hid (Calls Ybad.prog 31 _ _ _) := IN2
                  clear IN IN2 hw hc2 hcw HW5
                  cases c2 with
                  | true =>
                    have HE := HC2.out rfl
                    have HE' : Hid (0 < a' ∧ ltInt (F (a' - 1)) (F p2) = false) := HE
                    clear HE HC2
                    go_wp2_with fail
                    refine I4.out.mono ?_
                    rintro e w6 ⟨mid, d4, rfl, hw6, hq⟩
                    have HW6 : Hid (SW g w0 d4 w6) := hw6
                    have HQ : Hid (PartedEq p2 d3 a' b' mid d4) := hq
                    have q1 := hq.lo
                    have q2 := hq.hi
                    clear hw6 hq
                    go_wp2_with fail
                    exact ⟨⟨mid, b', l1, d4, rfl, rfl, rfl, hl1, ⟨wb, rfl⟩, ⟨wp, rfl⟩, HW6.out, HST3.out.equal HE'.out.1 hq1 hq2 (by rw [HF.out, HF.out]; exact HE'.out.2) HQ.out⟩, by simp [intOf]; omega⟩
                  | false =>
                    clear HC2 I4
                    go_wp2_with fail
                    refine I5.out.mono ?_
                    rintro e w6 ⟨mid, ok, d4, rfl, hw6, hq⟩
                    have HW6 : Hid (SW g w0 d4 w6) := hw6
                    have HQ : Hid (Parted d3 a' b' mid d4) := hq
                    have q1 := hq.lo
                    have q2 := hq.hi
                    have s4 : d4.size = n := by rw [hq.size, s3]
                    have B4 := HBS.out mid d4 hq
                    have B4l : Hid (Sort.Below ltInt a' mid d4) := B4.1
                    have B4r : Hid (Sort.Below ltInt (mid + 1) b' d4) := B4.2
                    clear hw6 hq I5 HBS B4
                    by_cases hlr : mid - a' < b' - mid
                    · have hlrb : decide ((mid : Int) - a' < (b' : Int) - mid) = true := by simp; omega
                      have R1 : Hid (Calls Ybad.prog 19 _ _ _) := IH.out a' mid l1 d4 w0 w6 (by omega) HW6 s4 q1 (by omega) B4l hl1
                      go_wp2_with fail
                      refine R1.out.mono ?_
                      rintro e w7 ⟨d5, rfl, hw7, hp5, hs5⟩
                      have HW7 : Hid (SW g w0 d5 w7) := hw7
                      have HN7 : Hid (St d a b (mid + 1) b' d5) := HST3.out.left HQ.out hp5 hs5
                      clear hw7 hp5 hs5
                      go_wp2_with fail
                      exact ⟨⟨mid + 1, b', l1, d5, by go_num, rfl, rfl, hl1, ⟨_, rfl⟩, ⟨ok, rfl⟩, HW7.out, HN7.out⟩, by simp [intOf]; omega⟩
                    · have hlrb : decide ((mid : Int) - a' < (b' : Int) - mid) = false := by simp; omega
                      have RR := IH.out (mid + 1) b' l1 d4 w0 w6 (by omega) HW6 s4 (by omega) (by omega) B4r hl1
                      have em : ((mid + 1 : Nat) : Int) = (mid : Int) + 1 := by omega
                      rw [em] at RR
                      have R1 : Hid (Calls Ybad.prog 19 _ _ _) := RR
                      clear RR em
                      go_wp2_with fail
                      refine R1.out.mono ?_
                      rintro e w7 ⟨d5, rfl, hw7, hp5, hs5⟩
                      have HW7 : Hid (SW g w0 d5 w7) := hw7
                      have HN7 : Hid (St d a b a' mid d5) := HST3.out.right HQ.out hp5 hs5
                      clear hw7 hp5 hs5
                      go_wp2_with fail
                      exact ⟨⟨a', mid, l1, d5, rfl, rfl, rfl, hl1, ⟨_, rfl⟩, ⟨ok, rfl⟩, HW7.out, HN7.out⟩, by simp [intOf]; omega⟩

theorem pdq_all (z g cap n : Nat) (hz : Hid (z = 0)) (hn : n ≤ 100000) : ∀ (N a b l : Nat) (d : Array Int) (w0 w : World), b - a ≤ N → Hid (SW g w0 d w) → d.size = n → a ≤ b → b ≤ n → Hid (Sort.Below ltInt a b d) → l ≤ 64 →
    Calls Ybad.prog 19 #[.slice (some ⟨g, z, none⟩) n cap, .int .i64 a, .int .i64 b, .int .i64 l] w fun e w' => Sorts g w0 d a b e w'
  | 0 => fun a b l d w0 w h => pdq_step z g cap n 0 hz hn (fun a b l d w0 w h => absurd h (Nat.not_lt_zero _)) a b l d w0 w h
  | N + 1 => fun a b l d w0 w h => pdq_step z g cap n (N + 1) hz hn (fun a b l d w0 w h => pdq_all z g cap n hz hn N a b l d w0 w (by omega)) a b l d w0 w h

theorem len_le64 (n : Nat) (h : n ≤ 100000) : Lib.bitLen n ≤ 64 := by
  by_cases h0 : n = 0
  · subst h0; decide
  · have := len_le n (by omega) h
    omega

/-- slices.Sort at words of 64 bits. -/
theorem sort_any (g n cap : Nat) (d : Array Int) (w0 w : World) (hS : Hid (SW g w0 d w)) (hd : d.size = n) (hn : n ≤ 100000) :
    Calls Ybad.prog 13 #[.slice (some ⟨g, 0, none⟩) n cap] w fun e w' => Sorts g w0 d 0 n e w' := by
  have L : Hid (∀ w, Calls Ybad.prog 20 _ _ _) := len_any n hn
  have P : Hid (Calls Ybad.prog 19 _ _ _) := pdq_all 0 g cap n rfl hn n 0 n (Lib.bitLen n) d w0 w (by omega) hS hd (Nat.zero_le _) (Nat.le_refl _) (Or.inl rfl) (len_le64 n hn)
  go_enter Ybad.func13, Ybad.ntmps13
  go_wp2_with fail
  refine (L.out w).mono ?_
  rintro e w1 ⟨rfl, rfl⟩
  go_wp2_with fail
  refine P.out.mono ?_
  rintro e w2 ⟨d', rfl, hw, hp, hs⟩
  go_wp2_with fail
  go_end0
  exact ⟨d', rfl, hw, hp, hs⟩
end Go.Proofs.YbulkeycDoor
