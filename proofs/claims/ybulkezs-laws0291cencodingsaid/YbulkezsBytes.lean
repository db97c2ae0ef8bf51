import Derived.Test.YbulkezsId
namespace Go.Proofs.Ybulkezs
open Go.RowKit
set_option linter.unusedVariables false

set_option maxHeartbeats 1000000 in
theorem bytes_core (bw : Nat) (sa : Option Addr) (L sc acc n Y : Nat) (w : World) (hn : n ≤ 64) (hL : L ≤ 100000) (Post : Nat → Nat → World → Prop)
    (c0 : w.cell? ⟨bw, 0, none⟩ = some (.slice sa L sc)) (c1 : w.cell? ⟨bw, 1, none⟩ = some (.int .u64 acc)) (c2 : w.cell? ⟨bw, 2, none⟩ = some (.int .i64 n))
    (key : IntKind.u64.wrap ((acc : Int) * 2 ^ (64 - n)) = (Y : Int))
    (h22 : Hid (∀ q, Calls Yba.prog 22 #[.agg #[], .slice sa L sc, .int .u64 Y] (w.drewN q) fun e w' => ∃ g cap, e = .returned (.slice (some ⟨g, 0, none⟩) (L + 8) cap) ∧ L + 8 ≤ cap ∧ Post g cap w'))
    (hPost : Hid (∀ g cap w', Post g cap w' → w'.cell? ⟨bw, 0, none⟩ = some (.slice sa L sc) ∧ w'.cell? ⟨bw, 1, none⟩ = some (.int .u64 acc) ∧ w'.cell? ⟨bw, 2, none⟩ = some (.int .i64 n))) :
    Calls Yba.prog 13 #[.pointer (some ⟨bw, 0, none⟩)] w fun e w' => ∃ g cap w1 q, e = .returned (.slice (some ⟨g, 0, none⟩) (L + (n + 7) / 8) cap) ∧ L + 8 ≤ cap ∧ Post g cap w1 ∧ w' = w1.drewN q := by
  have k0 : ∀ q, (w.drewN q).cell? ⟨bw, 0, none⟩ = some (.slice sa L sc) ∧ (w.drewN q).cell? ⟨bw, 1, none⟩ = some (.int .u64 acc) ∧ (w.drewN q).cell? ⟨bw, 2, none⟩ = some (.int .i64 n) := fun q => ⟨c0, c1, c2⟩
  have kw : IntKind.i64.wrap (64 - (n : Int)) = ((64 - n : Nat) : Int) := by simp [IntKind.wrap, IntKind.bits, IntKind.signed]; omega
  have kb : ((64 - n : Nat) : Int) ≤ 64 := by omega
  go_enter Yba.func13, Yba.ntmps13
  go_wp2
  go_region_held3 (fun w' => w'.cell? ⟨bw, 0, none⟩ = some (.slice sa L sc) ∧ w'.cell? ⟨bw, 1, none⟩ = some (.int .u64 acc) ∧ w'.cell? ⟨bw, 2, none⟩ = some (.int .i64 n))
    (first | exact k0 _ | exact hPost.out _ _ _ hP)
    (first | (go_at_call 22; refine (h22.out 1).mono ?_; rintro e w1 ⟨g, cap, rfl, hcap, hP⟩))
  rename_i hH
  obtain ⟨g0, g1, g2⟩ := hH
  have HP : Hid (Post g cap w1) := hP
  clear hP k0 c0 c1 c2 kw kb key
  have hcap' : (L : Int) + ((n : Int) + 7) / 8 ≤ (cap : Int) := by omega
  have hcap0 : (0 : Int) ≤ (L : Int) + ((n : Int) + 7) / 8 := by omega
  go_wp2
  go_quiet (fail)
  go_wp2
  go_ret
  exact ⟨g, cap, w1, nq, rfl, hcap, HP.out, rfl⟩

/-- The cells of an owned row of bytes. -/
theorem own_cells {w : World} {S n cap g : Nat} {xs : List Nat} (h : w.ownsRow S 5 1 (.slice (some ⟨g, 0, none⟩) n cap) xs.length (byteCells xs)) : ∀ i, i < xs.length → w.cell? ⟨g, i, none⟩ = some (.int .u8 (xs.getD i 0 : Nat)) := by
  intro i hi
  obtain ⟨hl, ⟨h1, _⟩ | ⟨g', cap', cur, e1, e2, e3, e4, e5, e6, e7⟩⟩ := h
  · cases h1
  · simp only [Value.slice.injEq, Option.some.injEq, Addr.mk.injEq] at e1
    obtain ⟨⟨rfl, _, _⟩, _, _⟩ := e1
    have h2 : (byteCells xs)[i]? = some (.int .u8 (xs.getD i 0 : Nat)) := by
      simp [byteCells, List.getD, List.getElem?_map, List.getElem?_eq_getElem hi]
    rw [← e7, List.getElem?_take] at h2
    rw [if_pos (by omega)] at h2
    simp only [World.cell?, e3]
    simpa using h2

/-- What 'bytes' gives: a slice whose bytes are R. -/
def BytesAt (w : World) (v : Value) (R : List Nat) : Prop := ∃ g cap, v = .slice (some ⟨g, 0, none⟩) R.length cap ∧ g < w.heap.size ∧ ∀ i, i < R.length → w.cell? ⟨g, i, none⟩ = some (.int .u8 (R.getD i 0 : Nat))

theorem bytes_any (S bw : Nat) (pre : List Nat) (bs : List Bool) (w : World) (hS : S ≤ w.heap.size) (h : Wr S bw pre bs w) (hlim : pre.length + bs.length ≤ 100000) :
    Calls Yba.prog 13 #[.pointer (some ⟨bw, 0, none⟩)] w fun e w' => ∃ v, e = .returned v ∧ BytesAt w' v (pre ++ M.pack bs) ∧ Fr S w w' := by
  obtain ⟨sv, xs, acc, n, hw, hb, ho, hr⟩ := h
  obtain ⟨c0, c1, c2, f⟩ := hw.cells
  have hn64 := hr.1
  have hacc : acc < 18446744073709551616 := hr.2.1
  obtain ⟨cs, hcs, hval, htake⟩ := M.rep_end hr
  have hxs : xs.length ≤ 100000 := by
    obtain ⟨_, _, hd, tl, e1, e2, e3, e4, _⟩ := hr
    have l1 := congrArg List.length e1
    have l2 := congrArg List.length e4
    simp only [List.length_append, M.pack_length] at l1 l2
    omega
  have hne := own_ne hw ho
  obtain ⟨sa, sl, sc, rfl, hsl⟩ : ∃ sa sl sc, sv = .slice sa sl sc ∧ sl = xs.length := by
    obtain ⟨_, ⟨rfl, h0⟩ | ⟨g, cap, cur, rfl, _⟩⟩ := ho
    · exact ⟨none, 0, 0, rfl, h0.symm⟩
    · exact ⟨_, _, _, rfl, rfl⟩
  subst hsl
  have key : IntKind.u64.wrap ((acc : Int) * 2 ^ (64 - n)) = ((M.val cs : Nat) : Int) := by
    rw [hval, IntKind.wrap_u64]; simp
  have h22 : ∀ q, Calls Yba.prog 22 #[.agg #[], .slice sa xs.length sc, .int .u64 (M.val cs : Nat)] (w.drewN q) fun e w' => ∃ g cap, e = .returned (.slice (some ⟨g, 0, none⟩) (xs.length + 8) cap) ∧ xs.length + 8 ≤ cap ∧
      (w'.ownsRow S 5 1 (.slice (some ⟨g, 0, none⟩) (xs.length + 8) cap) (xs ++ M.pack cs).length (byteCells (xs ++ M.pack cs)) ∧ w.grownBy w' (Value.slice sa xs.length sc).ownBlock) := by
    intro q
    refine (append64_any S cs hcs (.slice sa xs.length sc) xs (w.drewN q) ho hS (by omega)).mono ?_
    rintro e w' ⟨v', rfl, hov, hg⟩
    have hov' := hov
    obtain ⟨_, ⟨rfl, h0⟩ | ⟨g, cap, cur, rfl, _, _, hc, _⟩⟩ := hov
    · simp [M.pack_length, hcs] at h0
    · have hl8 : (xs ++ M.pack cs).length = xs.length + 8 := by simp [M.pack_length, hcs]
      rw [hl8] at hc
      refine ⟨g, cap, by rw [hl8], hc, ?_, ⟨hg.os, hg.tape, hg.output, hg.size, hg.block⟩⟩
      rw [hl8] at hov' ⊢
      exact hov'
  refine (bytes_core bw sa xs.length sc acc n (M.val cs) w hn64 hxs (fun g cap w' => w'.ownsRow S 5 1 (.slice (some ⟨g, 0, none⟩) (xs.length + 8) cap) (xs ++ M.pack cs).length (byteCells (xs ++ M.pack cs)) ∧ w.grownBy w' (Value.slice sa xs.length sc).ownBlock) c0 c1 c2 key h22 ?_).mono ?_
  · rintro g cap w' ⟨_, hg⟩
    have := WrAt.cells (sv := .slice sa xs.length sc) (acc := acc) (n := n) ((hg.block bw hw.lt hne).trans hw)
    exact ⟨this.1, this.2.1, this.2.2.1⟩
  · rintro e w' ⟨g, cap, w1, q, rfl, hcap, ⟨hov, hg⟩, rfl⟩
    have hlen : (pre ++ M.pack bs).length = xs.length + (n + 7) / 8 := by
      rw [← htake, List.length_take]
      simp only [List.length_append, M.pack_length, hcs]
      omega
    refine ⟨_, rfl, ⟨g, cap, by rw [hlen], ?_, ?_⟩, ?_⟩
    · obtain ⟨_, ⟨h1, _⟩ | ⟨g', cap', cur, e1, _, e3, _⟩⟩ := hov
      · cases h1
      · simp only [Value.slice.injEq, Option.some.injEq, Addr.mk.injEq] at e1
        obtain ⟨⟨rfl, _, _⟩, _, _⟩ := e1
        exact (Array.getElem?_eq_some_iff.1 e3).1
    · intro i hi
      have h1 := own_cells hov i (by simp only [List.length_append, M.pack_length, hcs]; omega)
      rw [World.cell?_drewN, h1, ← htake]
      congr 3
      simp only [List.getD, List.getElem?_take]
      rw [if_pos (by omega)]
    · have := grown_fr hS ho hg
      exact ⟨below_drewN this.below q, this.nodes⟩
end Go.Proofs.Ybulkezs
