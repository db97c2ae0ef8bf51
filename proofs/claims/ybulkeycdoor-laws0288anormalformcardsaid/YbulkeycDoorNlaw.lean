import Derived.Test.YbulkeycDoorNbuild
import Derived.Test.YbulkeycDoorNfour
/- The law of the normal form. -/
namespace Go.Proofs.YbulkeycDoor
open Go.RowKit N
set_option linter.unusedVariables false

set_option maxHeartbeats 4000000 in
set_option maxRecDepth 100000 in
theorem law_core (a : Option Addr) (n cap g : Nat) (F L X : Nat → Nat) (w w0 : World) (hn : n ≤ 512) (hF : Hid (∀ i, F i < 256)) (hL : Hid (∀ i, L i < 256)) (hX : Hid (∀ i, X i < 18446744073709551616))
    (HG : Hid (g = w.heap.size)) (HW0 : Hid (w0 = w.alloc (.cells (madeCells #[.int .u64 0] n) 26))) (hT : Hid (Tab w))
    (hA : Hid (0 < n → ∃ b off, a = some ⟨b, off, none⟩ ∧ Src n F L X ⟨b, off, none⟩ w)) :
    Calls Ybad.prog 3 #[.slice a n cap] w fun e w' => e = .returned (.bool true) ∧ Below w.heap.size w w' := by
  have BC : Hid (Calls Ybad.prog 7 #[.slice a n cap] w fun e w' => Built n g w0 e w') := build_core a n cap g F L X w w0 hn hF hL hX HG HW0 hA
  have T0 : Hid (Tab w0) := by rw [HW0.out]; exact tab_alloc hT.out _ (tab_pos hT.out)
  have G0 : Hid (0 < g) := by rw [HG.out]; exact tab_pos hT.out
  have BL : Hid (∀ d w', SW g w0 d w' → Below w.heap.size w w') := fun d w' h => by
    have h1 : Below w.heap.size w w0 := by rw [HW0.out]; exact (Below.refl _ _).alloc (Nat.le_refl _) _
    have h2 := HG.out
    exact h1.trans (h.below (by omega) h1.size)
  have NC : Hid (∀ w1 S d, SW g w0 d w1 → Row n 0 S [] d → (∀ j, j < n → Ok (S j)) → (∀ i j, i ≤ j → j < n → idOf (S i) ≤ idOf (S j)) →
      Calls Ybad.prog 8 #[.slice (some ⟨g, 0, none⟩) n n] w1 fun e w' => ∃ (K : List C) (d' : Array Int), e = .returned (.slice (some ⟨g, 0, none⟩) K.length n) ∧ SW g w0 d' w' ∧ Row n n S K d') :=
    fun w1 S d h1 h2 h3 h4 => norm_any g n S d w0 w1 h1 h2 (by omega) T0 G0 h3 h4
  clear hA hF hL hX
  go_enter Ybad.func3, Ybad.ntmps3
  go_upto_region 5 with (first | (go_at_call 7; refine BC.out.mono ?_; rintro e w1 ⟨S, d, rfl, hw, hr, ho, hs⟩; have N1 : Hid (Calls Ybad.prog 8 _ _ _) := NC.out w1 S d hw hr ho hs; clear hw hr ho hs) | (go_at_call 8; refine N1.out.mono ?_; rintro e w2 ⟨K, d2, rfl, hw, hr⟩; have HW : Hid (SW g w0 d2 w2) := hw; have HR : Hid (Row n n S K d2) := hr; clear hw hr N1))
  have kle : K.length ≤ n := HR.out.le
  go_cut [28] (fun v wx => v = .bool false ∧ wx = w2)
  case first =>
    by_cases h0 : 0 < n
    · have h1 : 0 < K.length := HR.out.some h0
      have hd : (((K.length : Nat) : Int) == 0) = false := by rw [beq_eq_false_iff_ne]; omega
      go_wp2_with fail
      go_meet
      exact ⟨rfl, rfl⟩
    · go_wp2_with fail
      go_meet
      exact ⟨rfl, rfl⟩
  case rest =>
    obtain ⟨hv, hwx⟩ := hcut
    subst hv
    subst hwx
    go_wp2_with fail
    go_loopw [5] (fun v wr => ∃ i : Nat, v = .int .i64 i ∧ i ≤ K.length ∧ wr = wc) (fun v _ => K.length - (intOf v).toNat)
    case atStart => exact ⟨0, rfl, Nat.zero_le _, rfl⟩
    case round =>
      obtain ⟨i, rfl, hi, hwr⟩ := hrel
      subst hwr
      by_cases hlt : i < K.length
      · obtain ⟨c, hc⟩ : ∃ c, c = K[i] := ⟨_, rfl⟩
        have okc : Ok c := by rw [hc]; exact HR.out.norm.ok _ (List.getElem_mem _)
        have cell : ∀ j (hj : j < K.length), wr.cell? ⟨g, j, none⟩ = some (.int .u64 ((idOf K[j] : Nat) : Int)) := fun j hj => by
          rw [HW.out.cell _ (by rw [HR.out.size]; omega), HR.out.kept _ hj]
        have ci : wr.cell? ⟨g, i, none⟩ = some (.int .u64 ((idOf c : Nat) : Int)) := by rw [cell i hlt, hc]
        have LV : Hid (Calls Ybad.prog 9 #[.int .u64 ((idOf c : Nat) : Int)] wr fun e w' => e = .returned (.tuple #[.int .i64 (30 - (c.1 : Int)), .bool true]) ∧ w' = wr) := lev_any okc wr (HW.out.tab T0.out G0.out)
        have CELL : Hid (∀ j (hj : j < K.length), wr.cell? ⟨g, j, none⟩ = some (.int .u64 ((idOf K[j] : Nat) : Int))) := cell
        have HC : Hid (c = K[i]) := hc
        clear cell hc
        go_upto_if 47 with (go_at_call 9; refine LV.out.mono ?_; rintro e w' ⟨rfl, hww⟩; rw [hww]; clear hww; clear w')
        go_cut [] (fun wx => wx = wr)
        case first =>
          by_cases h0 : 0 < i
          · obtain ⟨p, hp⟩ : ∃ p, p = K[i - 1] := ⟨_, rfl⟩
            have okp : Ok p := by rw [hp]; exact HR.out.norm.ok _ (List.getElem_mem _)
            have cp : wr.cell? ⟨g, i - 1, none⟩ = some (.int .u64 ((idOf p : Nat) : Int)) := by rw [CELL.out (i - 1) (by omega), hp]
            have hch : N.hi p < lo c := by
              have := HR.out.norm.chain (i - 1) (by omega)
              have e : i - 1 + 1 = i := by omega
              rw [hp, HC.out]
              simpa [e] using this
            have x1 := id_lo p
            have x2 := id_hi p
            have x3 := id_lo c
            have x4 := id_hi c
            have x5 := A_pos p
            have x6 := A_pos c
            obtain ⟨y1, y2, y3, y4⟩ := ok_lt okp
            obtain ⟨z1, z2, z3, z4⟩ := ok_lt okc
            have l1 := lsbN okp
            have l2 := lsbN okc
            have f1 : IntKind.u64.wrap (((A p : Nat) : Int) - 1) = ((A p - 1 : Nat) : Int) := by rw [IntKind.wrap_u64]; omega
            have f2 : IntKind.u64.wrap (((A c : Nat) : Int) - 1) = ((A c - 1 : Nat) : Int) := by rw [IntKind.wrap_u64]; omega
            have f3 : IntKind.u64.wrap (((idOf p : Nat) : Int) + ((A p - 1 : Nat) : Int)) = ((N.hi p : Nat) : Int) := by rw [IntKind.wrap_u64]; omega
            have f4 : IntKind.u64.wrap (((idOf c : Nat) : Int) - ((A c - 1 : Nat) : Int)) = ((lo c : Nat) : Int) := by rw [IntKind.wrap_u64]; omega
            have hpc : idOf p < idOf c := by omega
            clear x1 x2 x3 x4 x5 x6 y1 y2 y3 y4 z1 z2 z3 z4 hp okp LV
            generalize A p = ap at *
            generalize A c = ac at *
            generalize N.hi p = hp at *
            generalize lo c = lc at *
            generalize idOf p = ip at *
            generalize idOf c = ic at *
            have d1 : decide ((ip : Int) < (ic : Int)) = true := by simp; omega
            have d2 : decide ((hp : Int) < (lc : Int)) = true := by simp; omega
            have d3 : decide (ip < ic) = true := by simp; omega
            have d4 : decide (hp < lc) = true := by simp; omega
            go_wp2_with fail
            go_meet
            rfl
          · go_wp2_with fail
            go_meet
            rfl
        case rest =>
          subst hcut
          by_cases h3 : 3 ≤ i
          · obtain ⟨p, hp⟩ : ∃ p, p = K[i - 3] := ⟨_, rfl⟩
            obtain ⟨q, hq⟩ : ∃ q, q = K[i - 2] := ⟨_, rfl⟩
            obtain ⟨r, hr⟩ : ∃ r, r = K[i - 1] := ⟨_, rfl⟩
            have okp : Ok p := by rw [hp]; exact HR.out.norm.ok _ (List.getElem_mem _)
            have cp : wc.cell? ⟨g, i - 3, none⟩ = some (.int .u64 ((idOf p : Nat) : Int)) := by rw [CELL.out (i - 3) (by omega), hp]
            have cq : wc.cell? ⟨g, i - 2, none⟩ = some (.int .u64 ((idOf q : Nat) : Int)) := by rw [CELL.out (i - 2) (by omega), hq]
            have cr : wc.cell? ⟨g, i - 1, none⟩ = some (.int .u64 ((idOf r : Nat) : Int)) := by rw [CELL.out (i - 1) (by omega), hr]
            have hno : ¬ (A p < 1152921504606846976 ∧ idOf p % (8 * A p) = A p ∧ idOf q = idOf p + 2 * A p ∧ idOf r = idOf p + 4 * A p ∧ idOf c = idOf p + 6 * A p) := by
              rintro ⟨t1, t2, t3, t4, t5⟩
              have h := four_of t1 t2 t3 t4 t5
              have h4 := HR.out.norm.nofour (i - 3) (by omega)
              have e1 : i - 3 + 1 = i - 2 := by omega
              have e2 : i - 3 + 2 = i - 1 := by omega
              have e3 : i - 3 + 3 = i := by omega
              rw [hp, hq, hr, HC.out] at h
              simp only [e1, e2, e3] at h4
              exact h4 h
            have x5 := A_pos p
            obtain ⟨y1, y2, y3, y4⟩ := ok_lt okp
            have l1 := lsbN okp
            have hsm := A_small p
            clear hp hq hr okp LV okc
            generalize A p = a0 at *
            generalize idOf p = i0 at *
            generalize idOf q = i1 at *
            generalize idOf r = i2 at *
            generalize idOf c = i3 at *
            have HNO : Hid (¬ (a0 < 1152921504606846976 ∧ i0 % (8 * a0) = a0 ∧ i1 = i0 + 2 * a0 ∧ i2 = i0 + 4 * a0 ∧ i3 = i0 + 6 * a0)) := hno
            have Y : Hid (0 < a0 ∧ i0 < 6 * 2 ^ 61 ∧ (a0 < 1152921504606846976 → a0 ≤ 288230376151711744)) := ⟨x5, y2, hsm⟩
            clear hno x5 y1 y2 y3 y4 hsm
            go_upto_region 23 with fail
            obtain ⟨M, hM⟩ : ∃ M : Int, M = 1152921504606846976 := ⟨_, rfl⟩
            rw [← hM]
            have HM : Hid (M = 1152921504606846976) := hM
            clear hM
            by_cases t1 : a0 < 1152921504606846976
            · have g1 : decide ((a0 : Int) < M) = true := by rw [HM.out]; simp; omega
              have hy := Y.out
              have hy3 := hy.2.2 t1
              have f1 : IntKind.u64.wrap (8 * (a0 : Int)) = 8 * (a0 : Int) := by rw [IntKind.wrap_u64]; omega
              have f2 : IntKind.u64.wrap (2 * (a0 : Int)) = 2 * (a0 : Int) := by rw [IntKind.wrap_u64]; omega
              have f4 : IntKind.u64.wrap (4 * (a0 : Int)) = 4 * (a0 : Int) := by rw [IntKind.wrap_u64]; omega
              have f6 : IntKind.u64.wrap (6 * (a0 : Int)) = 6 * (a0 : Int) := by rw [IntKind.wrap_u64]; omega
              have s2 : IntKind.u64.wrap ((i0 : Int) + 2 * (a0 : Int)) = (i0 : Int) + 2 * (a0 : Int) := by rw [IntKind.wrap_u64]; omega
              have s4 : IntKind.u64.wrap ((i0 : Int) + 4 * (a0 : Int)) = (i0 : Int) + 4 * (a0 : Int) := by rw [IntKind.wrap_u64]; omega
              have s6 : IntKind.u64.wrap ((i0 : Int) + 6 * (a0 : Int)) = (i0 : Int) + 6 * (a0 : Int) := by rw [IntKind.wrap_u64]; omega
              have T1 : Hid (a0 < 1152921504606846976) := t1
              clear t1 hy hy3
              go_wp2_with fail
              all_goals first
                | exact ⟨⟨i + 1, by go_num, hlt, by trivial⟩, by simp [intOf]; omega⟩
                | (exfalso
                   have hy := Y.out
                   omega)
                | (rename_i k0 k1 k2 k3 k4
                   exfalso
                   rw [beq_iff_eq] at k4
                   have h1 : ((i0 % (8 * a0) : Nat) : Int) = ((a0 : Nat) : Int) := by rw [Int.natCast_emod, Int.natCast_mul]; exact k1
                   exact HNO.out ⟨T1.out, Int.ofNat.inj h1, by omega, by omega, by omega⟩)
            · have g1 : decide ((a0 : Int) < M) = false := by rw [HM.out]; simp; omega
              clear t1
              go_wp2_with fail
              exact ⟨⟨i + 1, by go_num, hlt, by trivial⟩, by simp [intOf]; omega⟩
          · go_wp2_with fail
            exact ⟨⟨i + 1, by go_num, hlt, by trivial⟩, by simp [intOf]; omega⟩
      · have e : i = K.length := by omega
        subst e
        go_wp2_with fail
        go_ret
        exact ⟨rfl, BL.out _ _ HW.out⟩

/-- More than 512 cells: the law asks nothing. -/
theorem law_big (a : Option Addr) (n cap : Nat) (w : World) (hn : 512 < n) : Calls Ybad.prog 3 #[.slice a n cap] w fun e w' => e = .returned (.bool true) ∧ Below w.heap.size w w' := by
  go_enter Ybad.func3, Ybad.ntmps3
  go_wp2_with fail
  go_ret
  exact ⟨rfl, Below.refl _ _⟩

theorem law_any (a : Option Addr) (n cap : Nat) (F L X : Nat → Nat) (w : World) (hF : ∀ i, F i < 256) (hL : ∀ i, L i < 256) (hX : ∀ i, X i < 18446744073709551616) (hT : Tab w)
    (hA : 0 < n → ∃ b off, a = some ⟨b, off, none⟩ ∧ Src n F L X ⟨b, off, none⟩ w) :
    Calls Ybad.prog 3 #[.slice a n cap] w fun e w' => e = .returned (.bool true) ∧ Below w.heap.size w w' := by
  rcases Nat.lt_or_ge 512 n with h | h
  · exact law_big a n cap w h
  · exact law_core a n cap _ F L X w _ h hF hL hX rfl rfl hT hA
end Go.Proofs.YbulkeycDoor
