import Derived.Test.YbulkeycDoorNchild
import Derived.Test.YbulkeycDoorNeq3
import Derived.Deep.DeepCutAuto
import Derived.Deep.CutBlock
/- normalize in place. -/
namespace Go.Proofs.YbulkeycDoor
open Go.RowKit N
set_option linter.unusedVariables false

/-- The row in round i: the cells kept, and the cells to come. -/
structure Row (n i : Nat) (S : Nat → C) (K : List C) (d : Array Int) : Prop where
  size : d.size = n
  kept : ∀ j (h : j < K.length), d[j]! = ((idOf K[j] : Nat) : Int)
  come : ∀ j, i ≤ j → j < n → d[j]! = ((idOf (S j) : Nat) : Int)
  le : K.length ≤ i
  norm : Norm K
  bound : ∀ p, p ∈ K → ∀ j, i ≤ j → j < n → lo p ≤ idOf (S j)
  some : 0 < i → 0 < K.length

theorem Row.skip {n i : Nat} {S : Nat → C} {K : List C} {d : Array Int} (h : Row n i S K d) (h0 : 0 < K.length) : Row n (i + 1) S K d :=
  ⟨h.size, h.kept, fun j h1 h2 => h.come j (by omega) h2, by have := h.le; omega, h.norm, fun p hp j h1 h2 => h.bound p hp j (by omega) h2, fun _ => h0⟩

def Stops (K : List C) (k : Nat) (c : C) : Prop := ∀ (h3 : 3 ≤ k) (hk : k ≤ K.length), ¬ (c.1 < 30 ∧ c = sib c 3 ∧ K[k - 3] = sib c 0 ∧ K[k - 2] = sib c 1 ∧ K[k - 1] = sib c 2)

theorem Row.next {n i k : Nat} {S : Nat → C} {K : List C} {d : Array Int} {c : C} (h : Row n i S K d) (hlt : i < n) (ht : Top K (idOf (S i)) k c) (hst : Stops K k c)
    (hso : ∀ i j, i ≤ j → j < n → idOf (S i) ≤ idOf (S j)) : Row n (i + 1) S (K.take k ++ [c]) (d.setIfInBounds k ((idOf c : Nat) : Int)) := by
  have kle := ht.kle
  have hle := h.le
  have hsz := h.size
  have hd := ht.done (fun h3 => hst h3 kle)
  have hl : (K.take k).length = k := by simp; omega
  refine ⟨by simp [hsz], fun j hj => ?_, fun j h1 h2 => ?_, by simp [Nat.min_eq_left kle]; omega, hd.1, fun p hp j h1 h2 => Nat.le_trans (hd.2 p hp) (hso i j (by omega) h2), fun _ => by simp⟩
  · simp only [List.length_append, List.length_singleton, hl] at hj
    by_cases e : j = k
    · subst e
      have hjs : j < d.size := by omega
      simp [hjs, Nat.min_eq_left kle]
    · have hjk : j < k := by omega
      rw [List.getElem_append_left (by omega), List.getElem_take]
      have := h.kept j (by omega)
      rw [← this]
      have hjs : j < d.size := by omega
      simp [hjs, Ne.symm e]
  · have := h.come j (by omega) h2
    rw [← this]
    have hjs : j < d.size := by omega
    have hne : k ≠ j := by omega
    simp [hjs, hne]

theorem SW.tab {g : Nat} {w0 w : World} {d : Array Int} (h : SW g w0 d w) (hT : Tab w0) (hg : 0 < g) : Tab w := fun j hj => by
  have h0 := tab_pos hT
  have e : w.heap[0]? = w0.heap[0]? := h.block 0 h0 (by omega)
  have := hT j hj
  simp only [World.cell?] at this ⊢
  rw [e]
  exact this

theorem SW.bel {g : Nat} {w0 w w1 : World} {d : Array Int} (h : SW g w0 d w) (hb : Below w.heap.size w w1) : SW g w0 d w1 :=
  ⟨(hb.block g h.lt).trans h.row, hb.os.trans h.os, hb.tape.trans h.tape, hb.output.trans h.output, Nat.le_trans h.size hb.size, fun k hk hne => (hb.block k (Nat.lt_of_lt_of_le hk h.size)).trans (h.block k hk hne)⟩

theorem cell_new4 (w : World) (a b c d : Int) : (w.alloc (.cells #[.int .u64 a, .int .u64 b, .int .u64 c, .int .u64 d] 45)).cell? ⟨w.heap.size, 0, none⟩ = some (.int .u64 a) ∧
    (w.alloc (.cells #[.int .u64 a, .int .u64 b, .int .u64 c, .int .u64 d] 45)).cell? ⟨w.heap.size, 1, none⟩ = some (.int .u64 b) ∧
    (w.alloc (.cells #[.int .u64 a, .int .u64 b, .int .u64 c, .int .u64 d] 45)).cell? ⟨w.heap.size, 2, none⟩ = some (.int .u64 c) ∧
    (w.alloc (.cells #[.int .u64 a, .int .u64 b, .int .u64 c, .int .u64 d] 45)).cell? ⟨w.heap.size, 3, none⟩ = some (.int .u64 d) := by
  refine ⟨?_, ?_, ?_, ?_⟩ <;> (rw [cell_of_row _ _ _ _ 45 (0, 0) (heap_alloc_new w _)]; rfl)

set_option maxHeartbeats 4000000 in
set_option maxRecDepth 100000 in
theorem norm_any (g n : Nat) (S : Nat → C) (d : Array Int) (w0 w : World) (hS : Hid (SW g w0 d w)) (hd : Hid (Row n 0 S [] d)) (hn : n ≤ 100000) (hT : Hid (Tab w0)) (hg : Hid (0 < g))
    (hok : Hid (∀ j, j < n → Ok (S j))) (hso : Hid (∀ i j, i ≤ j → j < n → idOf (S i) ≤ idOf (S j))) :
    Calls Ybad.prog 8 #[.slice (some ⟨g, 0, none⟩) n n] w fun e w' => ∃ (K : List C) (d' : Array Int), e = .returned (.slice (some ⟨g, 0, none⟩) K.length n) ∧ SW g w0 d' w' ∧ Row n n S K d' := by
  go_enter Ybad.func8, Ybad.ntmps8
  go_wp2_with fail
  go_loopw [3, 23] (fun v3 v23 wr => ∃ (i : Nat) (K : List C) (dk : Array Int), v3 = .slice (some ⟨g, 0, none⟩) K.length n ∧ v23 = .int .i64 i ∧ i ≤ n ∧ SW g w0 dk wr ∧ Row n i S K dk) (fun _ v _ => n - (intOf v).toNat)
  case atStart => exact ⟨0, [], d, rfl, rfl, Nat.zero_le _, hS.out, hd.out⟩
  case round =>
    obtain ⟨i, K, dk, rfl, rfl, hin, hw, hR⟩ := hrel
    have HW : Hid (SW g w0 dk wr) := hw
    have HR : Hid (Row n i S K dk) := hR
    have kle := hR.le
    by_cases hlt : i < n
    · obtain ⟨c, hc⟩ : ∃ c, c = S i := ⟨_, rfl⟩
      have HC : Hid (c = S i) := hc
      have okc : Ok c := by rw [hc]; exact hok.out i hlt
      have ci : wr.cell? ⟨g, i, none⟩ = some (.int .u64 ((idOf c : Nat) : Int)) := by
        rw [hw.cell i (by rw [hR.size]; exact hlt), hR.come i (Nat.le_refl _) hlt, hc]
      have LC : Hid (∀ w, Calls Ybad.prog 14 #[.int .u64 ((idOf c : Nat) : Int)] w fun e w' => e = .returned (.tuple #[.int .u64 ((lo c : Nat) : Int), .int .u64 ((hi c : Nat) : Int)]) ∧ w' = w) := fun w => leaf_any okc w
      clear hw hR hc
      go_upto_if 35 with (go_at_call 14; refine (LC.out _).mono ?_; rintro e w' ⟨rfl, hww⟩; rw [hww]; clear hww; clear w')
      go_cut [] (fun wx => wx = wr ∧ ∀ (h0 : 0 < K.length), ¬ (lo (K[K.length - 1]) ≤ lo c ∧ hi c ≤ hi (K[K.length - 1])))
      case first =>
        by_cases h0 : 0 < K.length
        · obtain ⟨q, hq⟩ : ∃ q, q = K[K.length - 1] := ⟨_, rfl⟩
          have okq : Ok q := by rw [hq]; exact HR.out.norm.ok _ (List.getElem_mem _)
          have cq : wr.cell? ⟨g, K.length - 1, none⟩ = some (.int .u64 ((idOf q : Nat) : Int)) := by
            rw [HW.out.cell _ (by rw [HR.out.size]; omega), HR.out.kept _ (by omega), hq]
          have LQ : Hid (∀ w, Calls Ybad.prog 14 #[.int .u64 ((idOf q : Nat) : Int)] w fun e w' => e = .returned (.tuple #[.int .u64 ((lo q : Nat) : Int), .int .u64 ((hi q : Nat) : Int)]) ∧ w' = w) := fun w => leaf_any okq w
          have HQ : Hid (q = K[K.length - 1]) := hq
          clear hq
          by_cases h1 : lo q ≤ lo c
          · by_cases h2 : hi c ≤ hi q
            · go_wp2_with (go_at_call 14; refine (LQ.out _).mono ?_; rintro e w' ⟨rfl, hww⟩; rw [hww]; clear hww; clear w')
              exact ⟨⟨i + 1, K, dk, rfl, by go_num, hlt, HW.out, HR.out.skip h0⟩, by simp [intOf]; omega⟩
            · go_wp2_with (go_at_call 14; refine (LQ.out _).mono ?_; rintro e w' ⟨rfl, hww⟩; rw [hww]; clear hww; clear w')
              go_meet
              exact ⟨rfl, fun _ hh => h2 (by rw [HQ.out]; exact hh.2)⟩
          · go_wp2_with (go_at_call 14; refine (LQ.out _).mono ?_; rintro e w' ⟨rfl, hww⟩; rw [hww]; clear hww; clear w')
            go_meet
            exact ⟨rfl, fun _ hh => h1 (by rw [HQ.out]; exact hh.1)⟩
        · go_wp2_with fail
          go_meet
          exact ⟨rfl, fun h => absurd h h0⟩
      case rest =>
        obtain ⟨hwx, hnot⟩ := hcut
        subst hwx
        have HNOT : Hid (∀ (h0 : 0 < K.length), ¬ (lo (K[K.length - 1]) ≤ lo c ∧ hi c ≤ hi (K[K.length - 1]))) := hnot
        clear hnot
        go_upto_block 2 with fail
        go_cut [3] (fun v3 wx => ∃ k : Nat, v3 = .slice (some ⟨g, 0, none⟩) k n ∧ k ≤ K.length ∧ wx = wc ∧ ∀ (h0 : 0 < k) (hk : k ≤ K.length), lo (K[k - 1]) < lo c)
        case first =>
          go_wp2_with fail
          go_loopw [3, 11] (fun v3 v11 wr => ∃ k : Nat, v3 = .slice (some ⟨g, 0, none⟩) k n ∧ v11 = .int .i64 k ∧ k ≤ K.length ∧ wr = wc) (fun _ v _ => (intOf v).toNat)
          case atStart => exact ⟨K.length, rfl, rfl, Nat.le_refl _, rfl⟩
          case round =>
            obtain ⟨k, rfl, rfl, hk, hwk⟩ := hrel
            subst hwk
            by_cases h0 : 0 < k
            · obtain ⟨q, hq⟩ : ∃ q, q = K[k - 1] := ⟨_, rfl⟩
              have okq : Ok q := by rw [hq]; exact HR.out.norm.ok _ (List.getElem_mem _)
              have cq : wr.cell? ⟨g, k - 1, none⟩ = some (.int .u64 ((idOf q : Nat) : Int)) := by
                rw [HW.out.cell _ (by rw [HR.out.size]; omega), HR.out.kept _ (by omega), hq]
              have LQ : Hid (∀ w, Calls Ybad.prog 14 #[.int .u64 ((idOf q : Nat) : Int)] w fun e w' => e = .returned (.tuple #[.int .u64 ((lo q : Nat) : Int), .int .u64 ((hi q : Nat) : Int)]) ∧ w' = w) := fun w => leaf_any okq w
              have HQ : Hid (q = K[k - 1]) := hq
              clear hq
              by_cases h1 : lo q < lo c
              · go_wp2_with (go_at_call 14; refine (LQ.out _).mono ?_; rintro e w' ⟨rfl, hww⟩; rw [hww]; clear hww; clear w')
                go_meet
                exact ⟨k, rfl, hk, rfl, fun _ _ => by rw [← HQ.out]; exact h1⟩
              · go_wp2_with (go_at_call 14; refine (LQ.out _).mono ?_; rintro e w' ⟨rfl, hww⟩; rw [hww]; clear hww; clear w')
                exact ⟨⟨k - 1, by first | rfl | (congr 1; omega), by first | rfl | (congr 1; omega), by omega, by trivial⟩, by simp [intOf]; omega⟩
            · go_wp2_with fail
              go_meet
              exact ⟨k, rfl, hk, rfl, fun h => absurd h h0⟩
        case rest =>
          obtain ⟨k, hv3, hk, hwk, hlow⟩ := hcut
          subst hv3
          subst hwk
          have HTOP : Hid (Top K (idOf c) k c) := by
            have hb : ∀ p, p ∈ K → lo p ≤ idOf c := fun p hp => by rw [HC.out]; exact HR.out.bound p hp i (Nat.le_refl _) hlt
            exact ⟨HR.out.norm, hb, hk, okc, fun h0 => gap HR.out.norm c hb HNOT.out k hk h0 (hlow h0 hk), lo_le c⟩
          clear hlow HNOT
          go_upto_block 4 with fail
          go_cut [3, 5] (fun v3 v5 wx => ∃ (k' : Nat) (c' : C), v3 = .slice (some ⟨g, 0, none⟩) k' n ∧ v5 = .int .u64 ((idOf c' : Nat) : Int) ∧ SW g w0 dk wx ∧ Top K (idOf c) k' c' ∧ Stops K k' c')
          case first =>
            go_wp2_with fail
            go_loopw [3, 5, 14] (fun v3 v5 v14 wr => ∃ (k' : Nat) (c' : C), v3 = .slice (some ⟨g, 0, none⟩) k' n ∧ v5 = .int .u64 ((idOf c' : Nat) : Int) ∧ v14 = .int .i64 k' ∧ SW g w0 dk wr ∧ Top K (idOf c) k' c') (fun _ _ v _ => (intOf v).toNat)
            case atStart => exact ⟨k, c, rfl, rfl, rfl, HW.out, HTOP.out⟩
            case round =>
              obtain ⟨k', c', rfl, rfl, rfl, hw', ht'⟩ := hrel
              have HW' : Hid (SW g w0 dk wr) := hw'
              have HT' : Hid (Top K (idOf c) k' c') := ht'
              have kle' := ht'.kle
              clear hw' ht' HTOP HW
              by_cases h3 : 3 ≤ k'
              · have LV : Hid (Calls Ybad.prog 9 #[.int .u64 ((idOf c' : Nat) : Int)] wr fun e w' => e = .returned (.tuple #[.int .i64 (30 - (c'.1 : Int)), .bool true]) ∧ w' = wr) := lev_any HT'.out.ok wr (HW'.out.tab hT.out hg.out)
                by_cases hs : c'.1 < 30
                · have AN : Hid (∀ w, Calls Ybad.prog 15 #[.int .u64 ((idOf c' : Nat) : Int), .int .i64 (30 - (c'.1 : Int) - 1)] w fun e w' => e = .returned (.int .u64 ((idOf (par c') : Nat) : Int)) ∧ w' = w) := fun w => by
                    have e : (30 - (c'.1 : Int) - 1) = 29 - (c'.1 : Int) := by omega
                    rw [e]
                    exact anc_any HT'.out.ok hs w
                  have KD : Hid (Calls Ybad.prog 16 #[.int .u64 ((idOf (par c') : Nat) : Int)] wr fun e w' => e = .returned (.agg #[.int .u64 ((idOf (sib c' 0) : Nat) : Int), .int .u64 ((idOf (sib c' 1) : Nat) : Int), .int .u64 ((idOf (sib c' 2) : Nat) : Int), .int .u64 ((idOf (sib c' 3) : Nat) : Int)]) ∧ Below wr.heap.size wr w') := by
                    have := kids_any (par_okG HT'.out.ok hs) (by show 0 < c'.1 + 1; omega) wr (HW'.out.tab hT.out hg.out)
                    have e4 : Array.map encU #[((idOf (sib c' 0) : Nat) : Int), ((idOf (sib c' 1) : Nat) : Int), ((idOf (sib c' 2) : Nat) : Int), ((idOf (sib c' 3) : Nat) : Int)] = #[.int .u64 ((idOf (sib c' 0) : Nat) : Int), .int .u64 ((idOf (sib c' 1) : Nat) : Int), .int .u64 ((idOf (sib c' 2) : Nat) : Int), .int .u64 ((idOf (sib c' 3) : Nat) : Int)] := by simp [encU]
                    rw [kids_val c' hs, e4] at this
                    exact this
                  go_upto_region 23 with (first | (go_at_call 9; refine LV.out.mono ?_; rintro e w' ⟨rfl, hww⟩; rw [hww]; clear hww; clear w') | (go_at_call 15; refine (AN.out _).mono ?_; rintro e w' ⟨rfl, hww⟩; rw [hww]; clear hww; clear w') | (go_at_call 16; refine KD.out.mono ?_; rintro e w1 ⟨rfl, hbel⟩; have HBEL : Hid (Below wr.heap.size wr w1) := hbel; clear hbel))
                  have HWW : Hid (SW g w0 dk (w1.alloc (.cells #[.int .u64 ((idOf (sib c' 0) : Nat) : Int), .int .u64 ((idOf (sib c' 1) : Nat) : Int), .int .u64 ((idOf (sib c' 2) : Nat) : Int), .int .u64 ((idOf (sib c' 3) : Nat) : Int)] 45))) := (HW'.out.bel HBEL.out).alloc _
                  have b0 := cell_new4 w1 ((idOf (sib c' 0) : Nat) : Int) ((idOf (sib c' 1) : Nat) : Int) ((idOf (sib c' 2) : Nat) : Int) ((idOf (sib c' 3) : Nat) : Int)
                  generalize w1.alloc (.cells #[.int .u64 ((idOf (sib c' 0) : Nat) : Int), .int .u64 ((idOf (sib c' 1) : Nat) : Int), .int .u64 ((idOf (sib c' 2) : Nat) : Int), .int .u64 ((idOf (sib c' 3) : Nat) : Int)] 45) = W at *
                  generalize w1.heap.size = B at *
                  obtain ⟨b0, b1, b2, b3⟩ := b0
                  obtain ⟨q0, hq0⟩ : ∃ q, q = K[k' - 3] := ⟨_, rfl⟩
                  obtain ⟨q1, hq1⟩ : ∃ q, q = K[k' - 2] := ⟨_, rfl⟩
                  obtain ⟨q2, hq2⟩ : ∃ q, q = K[k' - 1] := ⟨_, rfl⟩
                  have a0 : W.cell? ⟨g, k' - 3, none⟩ = some (.int .u64 ((idOf q0 : Nat) : Int)) := by
                    rw [HWW.out.cell _ (by rw [HR.out.size]; omega), HR.out.kept _ (by omega), hq0]
                  have a1 : W.cell? ⟨g, k' - 3 + 1, none⟩ = some (.int .u64 ((idOf q1 : Nat) : Int)) := by
                    have e : k' - 3 + 1 = k' - 2 := by omega
                    rw [e, HWW.out.cell _ (by rw [HR.out.size]; omega), HR.out.kept _ (by omega), hq1]
                  have a2 : W.cell? ⟨g, k' - 3 + 2, none⟩ = some (.int .u64 ((idOf q2 : Nat) : Int)) := by
                    have e : k' - 3 + 2 = k' - 1 := by omega
                    rw [e, HWW.out.cell _ (by rw [HR.out.size]; omega), HR.out.kept _ (by omega), hq2]
                  have HQ0 : Hid (q0 = K[k' - 3]) := hq0
                  have HQ1 : Hid (q1 = K[k' - 2]) := hq1
                  have HQ2 : Hid (q2 = K[k' - 1]) := hq2
                  clear hq0 hq1 hq2
                  generalize hy : ((idOf c' : Nat) : Int) = y at *
                  generalize hx3 : ((idOf (sib c' 3) : Nat) : Int) = x3 at *
                  have HY : Hid (((idOf c' : Nat) : Int) = y) := hy
                  have HX3 : Hid (((idOf (sib c' 3) : Nat) : Int) = x3) := hx3
                  clear hy hx3
                  by_cases e3 : y = x3
                  · have g3 : (y == x3) = true := by simp [e3]
                    have g3' : (y != x3) = false := by simp [e3]
                    have ht : ∀ w, (Instr.arrayAt 47 (.slice (some ⟨g, k' - 3, none⟩) (k' - (k' - 3)) (n - (k' - 3)))).run Ybad.prog w = .ok (.pointer (some ⟨g, k' - 3, none⟩)) w := at3 _ _ _ (by omega)
                    have ht2 : ∀ w, (Instr.arrayAt 47 (.slice (some ⟨B, 0, none⟩) 3 4)).run Ybad.prog w = .ok (.pointer (some ⟨B, 0, none⟩)) w := at3 _ _ _ (by omega)
                    have G3 : Hid (idOf c' = idOf (sib c' 3)) := by
                      have h1 := HY.out
                      have h2 := HX3.out
                      show _ = _
                      omega
                    clear e3
                    by_cases e012 : idOf q0 = idOf (sib c' 0) ∧ idOf q1 = idOf (sib c' 1) ∧ idOf q2 = idOf (sib c' 2)
                    · have heq : ∀ w, (Op.equalIn 10000 47 (.agg #[.int .u64 ((idOf q0 : Nat) : Int), .int .u64 ((idOf q1 : Nat) : Int), .int .u64 ((idOf q2 : Nat) : Int)]) (.agg #[.int .u64 ((idOf (sib c' 0) : Nat) : Int), .int .u64 ((idOf (sib c' 1) : Nat) : Int), .int .u64 ((idOf (sib c' 2) : Nat) : Int)])).run Ybad.prog w = .ok true w := fun w => by
                        rw [eq3]
                        congr 1
                        simp [e012.1, e012.2.1, e012.2.2]
                      have E012 : Hid (idOf q0 = idOf (sib c' 0) ∧ idOf q1 = idOf (sib c' 1) ∧ idOf q2 = idOf (sib c' 2)) := e012
                      clear e012
                      go_quiet (first | simp only [ht] | simp only [ht2] | simp only [heq])
                      go_wp2_with fail
                      have HM : Top K (idOf c) (k' - 3) (par c') := HT'.out.merge h3 hs (id_inj _ _ G3.out) (by rw [← HQ0.out]; exact id_inj _ _ E012.out.1)
                      exact ⟨⟨k' - 3, par c', by first | rfl | (congr 1; omega), rfl, by first | rfl | (congr 1; omega), HWW.out.drewN _, HM⟩, by simp [intOf]; omega⟩
                    · have heq : ∀ w, (Op.equalIn 10000 47 (.agg #[.int .u64 ((idOf q0 : Nat) : Int), .int .u64 ((idOf q1 : Nat) : Int), .int .u64 ((idOf q2 : Nat) : Int)]) (.agg #[.int .u64 ((idOf (sib c' 0) : Nat) : Int), .int .u64 ((idOf (sib c' 1) : Nat) : Int), .int .u64 ((idOf (sib c' 2) : Nat) : Int)])).run Ybad.prog w = .ok false w := fun w => by
                        rw [eq3]
                        congr 1
                        rw [Bool.eq_false_iff]
                        intro hh
                        simp only [Bool.and_eq_true, beq_iff_eq] at hh
                        exact e012 ⟨by omega, by omega, by omega⟩
                      have E012 : Hid (¬ (idOf q0 = idOf (sib c' 0) ∧ idOf q1 = idOf (sib c' 1) ∧ idOf q2 = idOf (sib c' 2))) := e012
                      clear e012
                      go_quiet (first | simp only [ht] | simp only [ht2] | simp only [heq])
                      go_wp2_with fail
                      go_meet
                      refine ⟨k', c', rfl, ?_, HWW.out.drewN _, HT'.out, fun _ _ h => E012.out ⟨?_, ?_, ?_⟩⟩
                      · rw [HY.out]
                      · rw [HQ0.out, h.2.2.1]
                      · rw [HQ1.out, h.2.2.2.1]
                      · rw [HQ2.out, h.2.2.2.2]
                  · have g3 : (y == x3) = false := by simp; omega
                    have g3' : (y != x3) = true := by simp; omega
                    have G3 : Hid (¬ idOf c' = idOf (sib c' 3)) := by
                      have h1 := HY.out
                      have h2 := HX3.out
                      show ¬ _ = _
                      omega
                    clear e3
                    go_quiet (fail)
                    go_wp2_with fail
                    go_meet
                    refine ⟨k', c', rfl, ?_, HWW.out.drewN _, HT'.out, fun _ _ h => G3.out (congrArg idOf h.2.1)⟩
                    rw [HY.out]
                · have hs0 : ((30 - (c'.1 : Int)) == 0) = true := by
                    have := HT'.out.ok.1
                    simp; omega
                  go_wp2_with (go_at_call 9; refine LV.out.mono ?_; rintro e w' ⟨rfl, hww⟩; rw [hww]; clear hww; clear w')
                  go_meet
                  exact ⟨k', c', rfl, rfl, HW'.out, HT'.out, fun _ _ h => hs h.1⟩
              · go_wp2_with fail
                go_meet
                exact ⟨k', c', rfl, rfl, HW'.out, HT'.out, fun h => absurd h h3⟩
          case rest =>
            obtain ⟨k', c', hv3, hv5, hw', ht', hst⟩ := hcut
            subst hv3
            subst hv5
            have HW' : Hid (SW g w0 dk wc) := hw'
            have HT' : Hid (Top K (idOf c) k' c') := ht'
            have HST : Hid (Stops K k' c') := hst
            have kle' := ht'.kle
            clear hw' ht' hst HTOP HW
            have hkn : k' < n := by omega
            have HA : Hid (SW g w0 dk (wc.alloc (.cells #[.int .u64 ((idOf c' : Nat) : Int)] 26))) := HW'.out.alloc _
            go_wp2_with (at_builtin; refine append_room _ rfl _ _ rfl g k' n 1 ⟨wc.heap.size, 0, none⟩ (.int .u64 ((idOf c' : Nat) : Int)) rfl rfl ?c1 rfl hkn ?c2 ?c3 ?_)
            case c1 => simp [Addr.add]
            case c2 => rw [HA.out.cell k' (by rw [HR.out.size]; omega)]; rfl
            case c3 => exact HA.out.frozen k'
            go_wp2_with fail
            have HN : Row n (i + 1) S (K.take k' ++ [c']) (dk.setIfInBounds k' ((idOf c' : Nat) : Int)) := HR.out.next hlt (by rw [← HC.out]; exact HT'.out) HST.out hso.out
            exact ⟨⟨i + 1, K.take k' ++ [c'], dk.setIfInBounds k' ((idOf c' : Nat) : Int), by simp [Nat.min_eq_left kle'], by go_num, hlt, HA.out.set k' _, HN⟩, by simp [intOf]; omega⟩
    · have e : i = n := by omega
      subst e
      clear hw hR
      go_wp2_with fail
      go_ret
      exact ⟨K, dk, rfl, HW.out, HR.out⟩
end Go.Proofs.YbulkeycDoor
