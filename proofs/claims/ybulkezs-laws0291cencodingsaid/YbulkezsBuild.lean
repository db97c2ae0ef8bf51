import Derived.Test.YbulkezsTree
namespace Go.Proofs.Ybulkezs
open Go.RowKit
set_option linter.unusedVariables false

/-- Every block but p is as it was. -/
structure But (p : Nat) (w w' : World) : Prop where
  os : w'.os = w.os
  tape : w'.tape = w.tape
  output : w'.output = w.output
  size : w.heap.size ≤ w'.heap.size
  block : ∀ k, k < w.heap.size → k ≠ p → w'.heap[k]? = w.heap[k]?

theorem But.refl (p : Nat) (w : World) : But p w w := ⟨rfl, rfl, rfl, Nat.le_refl _, fun _ _ _ => rfl⟩
theorem But.trans {p : Nat} {a b c : World} (h : But p a b) (k : But p b c) : But p a c :=
  ⟨k.os.trans h.os, k.tape.trans h.tape, k.output.trans h.output, Nat.le_trans h.size k.size, fun i hi hp => (k.block i (Nat.lt_of_lt_of_le hi h.size) hp).trans (h.block i hi hp)⟩
theorem But.of_below {p : Nat} {w w' : World} (h : Below w.heap.size w w') : But p w w' := ⟨h.os, h.tape, h.output, h.size, fun k hk _ => h.block k hk⟩
theorem But.below {p : Nat} {w w' : World} (h : But p w w') (hp : p ≤ w.heap.size) : Below p w w' := ⟨h.os, h.tape, h.output, h.size, fun k hk => h.block k (by omega) (by omega)⟩
theorem But.alloc {p : Nat} {w w' : World} (h : But p w w') (o : Obj) : But p w (w'.alloc o) := h.trans (But.of_below ((Below.refl _ _).alloc (Nat.le_refl _) _))
theorem But.drewN {p : Nat} {w w' : World} (h : But p w w') (n : Nat) : But p w (w'.drewN n) := ⟨h.os, h.tape, h.output, h.size, h.block⟩

/-- The counter's block. -/
def PosAt (w : World) (p : Nat) (k : Nat) : Prop := w.heap[p]? = some (.cells #[.int .i64 k] 3 (0, 0))
theorem PosAt.lt {w : World} {p k : Nat} (h : PosAt w p k) : p < w.heap.size := (Array.getElem?_eq_some_iff.1 h).1
theorem PosAt.cell {w : World} {p k : Nat} (h : PosAt w p k) : w.cell? ⟨p, 0, none⟩ = some (.int .i64 k) ∧ w.frozen? ⟨p, 0, none⟩ = false := by
  unfold PosAt at h
  exact ⟨by simp [World.cell?, h], by simp [World.frozen?, h]⟩

theorem But.nodes {p k : Nat} {w w' : World} (h : But p w w') (hp : PosAt w p k) : Nodes 0 w w' := fun g l r o _ hn => by
  refine (h.block g hn.lt ?_).trans hn
  rintro rfl
  unfold PosAt at hp; unfold Node at hn
  rw [hp] at hn
  simp at hn

/-- Writing the counter. -/
theorem pos_set {w : World} {p k : Nat} (h : PosAt w p k) (k' : Nat) : PosAt (w.setCell ⟨p, 0, none⟩ (.int .i64 k')) p k' ∧ But p w (w.setCell ⟨p, 0, none⟩ (.int .i64 k')) := by
  refine ⟨?_, rfl, rfl, rfl, by simp [World.setCell], fun i hi hne => ?_⟩
  · unfold PosAt at *
    simp [World.setCell, Array.getElem?_modify, h]
  · simp [World.setCell, Array.getElem?_modify, Ne.symm hne]

/-- The data that the builder reads. -/
def DataAt (w : World) (a : Option Addr) (n : Nat) (z : Nat → Nat) : Prop := 0 < n → ∃ b off, a = some ⟨b, off, none⟩ ∧ ∀ i, i < n → w.cell? ⟨b, off + i, none⟩ = some (.int .u8 (z i))
theorem DataAt.below {w w' : World} {a : Option Addr} {n p : Nat} {z : Nat → Nat} (h : DataAt w a n z) (hB : Below w.heap.size w w') : DataAt w' a n z := fun h0 => by
  obtain ⟨b, off, e, hc⟩ := h h0
  exact ⟨b, off, e, fun i hi => cellB hB (hc i hi)⟩

theorem DataAt.but {w w' : World} {a : Option Addr} {n p k : Nat} {z : Nat → Nat} (h : DataAt w a n z) (hB : But p w w') (hp : PosAt w p k) : DataAt w' a n z := fun h0 => by
  obtain ⟨b, off, e, hc⟩ := h h0
  refine ⟨b, off, e, fun i hi => ?_⟩
  have h1 := hc i hi
  have hb : b < w.heap.size := block_lt_of_cell h1
  have hne : b ≠ p := by
    rintro rfl
    unfold PosAt at hp
    simp only [World.cell?, hp] at h1
    have : (off + i) = 0 ∨ 0 < off + i := by omega
    rcases this with e0 | e0
    · simp [e0] at h1
    · rw [Array.getElem?_eq_none (by simp; omega)] at h1
      simp at h1
  have h2 := hB.block b hb hne
  simp only [World.cell?] at h1 ⊢
  rw [h2]
  exact h1

/-- What the builder answers: an id, its code bits, how far the counter has come. -/
def Built (n p k : Nat) (w : World) (e : Ending) (w' : World) : Prop :=
  ∃ l r o d bs k', e = .returned (.agg #[.pointer l, .pointer r, .bool o]) ∧ PosAt w' p k' ∧ k ≤ k' ∧ k' ≤ n ∧ Enc w.heap.size d w' l r o bs ∧ bs.length ≤ 5 * (k' - k) + 3 ∧ But p w w'

set_option maxHeartbeats 1000000 in
theorem build_end (a : Option Addr) (n cap p k : Nat) (w : World) (hn : n ≤ 1024) (hk : n ≤ k) (hkn : k ≤ n) (hp : PosAt w p k) :
    Calls Yba.prog 11 #[.slice a n cap, .pointer (some ⟨p, 0, none⟩)] w fun e w' => Built n p k w e w' := by
  obtain ⟨c0, f0⟩ := hp.cell
  have hlt := hp.lt
  have HP : Hid (PosAt w p k) := hp
  clear hp
  go_enter Yba.func11, Yba.ntmps11
  go_wp2
  refine bodyPost_ret (v := .agg #[.pointer none, .pointer none, .bool false]) (by simp [results, Yba.results11, go_sem]) rfl ?_
  have hB : Below w.heap.size w (w.alloc (.cells #[.pointer none, .pointer none, .bool false] 36)) := (Below.refl _ _).alloc (Nat.le_refl _) _
  exact ⟨none, none, false, 1, [false, false, false], k, rfl, (hB.block _ hlt).trans HP.out, Nat.le_refl _, hkn, .inl ⟨rfl, rfl⟩, by simp, But.of_below hB⟩

/-- A leaf was made, one byte taken. -/
theorem built_leaf {n p k : Nat} {w : World} (o : Bool) (hk : k < n) (hp : PosAt w p k) :
    Built n p k w (.returned (.agg #[.pointer none, .pointer none, .bool o])) ((w.setCell ⟨p, 0, none⟩ (.int .i64 ((k : Int) + 1))).alloc (.cells #[.pointer none, .pointer none, .bool o] 36)) := by
  have hs := pos_set hp (k + 1)
  rw [show ((k + 1 : Nat) : Int) = (k : Int) + 1 by omega] at hs
  have hB : Below (w.setCell ⟨p, 0, none⟩ (.int .i64 ((k : Int) + 1))).heap.size (w.setCell ⟨p, 0, none⟩ (.int .i64 ((k : Int) + 1))) ((w.setCell ⟨p, 0, none⟩ (.int .i64 ((k : Int) + 1))).alloc (.cells #[.pointer none, .pointer none, .bool o] 36)) := (Below.refl _ _).alloc (Nat.le_refl _) _
  exact ⟨none, none, o, 1, [false, false, o], k + 1, rfl, (hB.block _ hs.1.lt).trans hs.1, by omega, by omega, .inl ⟨rfl, rfl⟩, by simp, hs.2.trans (But.of_below hB)⟩

set_option maxHeartbeats 1000000 in
theorem build_zero (b off n cap p k z : Nat) (w : World) (hn : n ≤ 1024) (hk : k < n) (hp : PosAt w p k) (hz : z < 256) (h3 : z % 3 ≤ 0) (hc : w.cell? ⟨b, off + k, none⟩ = some (.int .u8 z)) :
    Calls Yba.prog 11 #[.slice (some ⟨b, off, none⟩) n cap, .pointer (some ⟨p, 0, none⟩)] w fun e w' => Built n p k w e w' := by
  obtain ⟨c0, f0⟩ := hp.cell
  have hlt := hp.lt
  have hb : b < w.heap.size := block_lt_of_cell hc
  have HP : Hid (PosAt w p k) := hp
  clear hp
  go_enter Yba.func11, Yba.ntmps11
  go_wp2
  exact bodyPost_ret (v := .agg #[.pointer none, .pointer none, .bool false]) (by simp [results, Yba.results11, go_sem]) rfl (built_leaf false hk HP.out)

set_option maxHeartbeats 1000000 in
theorem build_one (b off n cap p k z : Nat) (w : World) (hn : n ≤ 1024) (hk : k < n) (hp : PosAt w p k) (hz : z < 256) (h3 : z % 3 ≤ 1) (h3' : 1 ≤ z % 3) (hc : w.cell? ⟨b, off + k, none⟩ = some (.int .u8 z)) :
    Calls Yba.prog 11 #[.slice (some ⟨b, off, none⟩) n cap, .pointer (some ⟨p, 0, none⟩)] w fun e w' => Built n p k w e w' := by
  obtain ⟨c0, f0⟩ := hp.cell
  have hlt := hp.lt
  have hb : b < w.heap.size := block_lt_of_cell hc
  have HP : Hid (PosAt w p k) := hp
  clear hp
  go_enter Yba.func11, Yba.ntmps11
  go_wp2
  exact bodyPost_ret (v := .agg #[.pointer none, .pointer none, .bool true]) (by simp [results, Yba.results11, go_sem]) rfl (built_leaf true hk HP.out)

theorem node_new (w : World) (l r : Option Addr) (o : Bool) : Node (w.alloc (.cells #[.pointer l, .pointer r, .bool o] 36)) w.heap.size l r o := heap_alloc_new w _

theorem setCell_block {w : World} {a : Addr} {v : Value} {k : Nat} (h : k ≠ a.block) : (w.setCell a v).heap[k]? = w.heap[k]? := by
  simp [World.setCell, Array.getElem?_modify, Ne.symm h]
theorem setCell_size (w : World) (a : Addr) (v : Value) : (w.setCell a v).heap.size = w.heap.size := by simp [World.setCell]

/-- A node's three cells, stored. -/
theorem node_set {w : World} {g : Nat} {l r : Option Addr} {o : Bool} (h : Node w g l r o) (l' r' : Option Addr) (o' : Bool) : Node (((w.setCell ⟨g, 0, none⟩ (.pointer l')).setCell ⟨g, 1, none⟩ (.pointer r')).setCell ⟨g, 2, none⟩ (.bool o')) g l' r' o' := by
  unfold Node at *
  simp [World.setCell, Array.getElem?_modify, h]

/-- A pair was made. -/
theorem built_pair {n p k k1 k2 d1 d2 : Nat} {w W1 w2 w3 : World} {l1 r1 l2 r2 : Option Addr} {o1 o2 : Bool} {b1 b2 : List Bool} (hp : PosAt w p k) (hk : k < n)
    (P1 : PosAt W1 p (k + 1)) (U1 : But p w W1) (S1 : W1.heap.size = w.heap.size + 1) (hk1 : k + 1 ≤ k1) (hk1n : k1 ≤ n) (p2 : PosAt w2 p k1) (en1 : Enc W1.heap.size d1 w2 l1 r1 o1 b1) (len1 : b1.length ≤ 5 * (k1 - (k + 1)) + 3) (u2 : But p W1 w2)
    (hk2 : k1 ≤ k2) (hk2n : k2 ≤ n) (p3 : PosAt w3 p k2) (en2 : Enc (w2.alloc (.cells #[.pointer l1, .pointer r1, .bool o1] 36)).heap.size d2 w3 l2 r2 o2 b2) (len2 : b2.length ≤ 5 * (k2 - k1) + 3)
    (u3 : But p (w2.alloc (.cells #[.pointer l1, .pointer r1, .bool o1] 36)) w3) (L3 : Node w3 w2.heap.size l1 r1 o1) (P2 : PosAt (w2.alloc (.cells #[.pointer l1, .pointer r1, .bool o1] 36)) p k1) (x0 x1 x2 : Value) :
    Built n p k w (.returned (.agg #[.pointer (some ⟨w2.heap.size, 0, none⟩), .pointer (some ⟨w3.heap.size, 0, none⟩), .bool false]))
      ((((w3.setCell ⟨w.heap.size, 0, none⟩ x0).setCell ⟨w.heap.size, 1, none⟩ x1).setCell ⟨w.heap.size, 2, none⟩ x2).alloc (.cells #[.pointer l2, .pointer r2, .bool o2] 36)) := by
  have hlt := hp.lt
  have s2 : w.heap.size + 1 ≤ w2.heap.size := by have := u2.size; omega
  have s3 : w2.heap.size + 1 ≤ w3.heap.size := by have := u3.size; simpa using this
  generalize hF : ((w3.setCell ⟨w.heap.size, 0, none⟩ x0).setCell ⟨w.heap.size, 1, none⟩ x1).setCell ⟨w.heap.size, 2, none⟩ x2 = F
  have fb : ∀ i, i ≠ w.heap.size → F.heap[i]? = w3.heap[i]? := fun i hi => by
    rw [← hF, setCell_block (by exact hi), setCell_block (by exact hi), setCell_block (by exact hi)]
  have fs : F.heap.size = w3.heap.size := by rw [← hF, setCell_size, setCell_size, setCell_size]
  have hB : Below F.heap.size F (F.alloc (.cells #[.pointer l2, .pointer r2, .bool o2] 36)) := (Below.refl _ _).alloc (Nat.le_refl _) _
  have fb' : ∀ i, i ≠ w.heap.size → i < w3.heap.size → (F.alloc (.cells #[.pointer l2, .pointer r2, .bool o2] 36)).heap[i]? = w3.heap[i]? := fun i hi hs => (hB.block i (by omega)).trans (fb i hi)
  have nod3 : Nodes (w.heap.size + 1) w3 (F.alloc (.cells #[.pointer l2, .pointer r2, .bool o2] 36)) := fun g l r o hg hn => (fb' g (by omega) hn.lt).trans hn
  have nodA : Nodes 0 w2 (w2.alloc (.cells #[.pointer l1, .pointer r1, .bool o1] 36)) := Nodes.below ((Below.refl _ _).alloc (Nat.le_refl _) _)
  have nodB := u3.nodes P2
  have e1 : Enc (w.heap.size + 1) d1 (F.alloc (.cells #[.pointer l2, .pointer r2, .bool o2] 36)) l1 r1 o1 b1 := by
    rw [S1] at en1
    exact en1.mono (((nodA.trans nodB).mono (Nat.zero_le _)).trans nod3)
  have e2 : Enc (w.heap.size + 1) d2 (F.alloc (.cells #[.pointer l2, .pointer r2, .bool o2] 36)) l2 r2 o2 b2 := (en2.base (by simp; omega)).mono nod3
  have N1 : Node (F.alloc (.cells #[.pointer l2, .pointer r2, .bool o2] 36)) w2.heap.size l1 r1 o1 := nod3 _ _ _ _ (by omega) L3
  have N2 : Node (F.alloc (.cells #[.pointer l2, .pointer r2, .bool o2] 36)) w3.heap.size l2 r2 o2 := by
    have := node_new F l2 r2 o2
    rw [fs] at this
    exact this
  have hF3 : But p w F := by
    have hu := U1.trans (u2.trans ((But.of_below ((Below.refl _ _).alloc (Nat.le_refl _) (.cells #[.pointer l1, .pointer r1, .bool o1] 36))).trans u3))
    refine ⟨?_, ?_, ?_, by omega, fun i hi hne => ?_⟩
    · rw [← hF]; exact hu.os
    · rw [← hF]; exact hu.tape
    · rw [← hF]; exact hu.output
    · rw [fb i (by omega)]; exact hu.block i hi hne
  refine ⟨_, _, _, max d1 d2 + 1, _, k2, rfl, ?_, by omega, hk2n, .inr ⟨_, _, l1, r1, o1, l2, r2, o2, b1, b2, rfl, rfl, ⟨by omega, by omega⟩, N1, N2, (e1.base (by omega)).le (Nat.le_max_left _ _), (e2.base (by omega)).le (Nat.le_max_right _ _), rfl⟩, ?_, hF3.alloc _⟩
  · exact (fb' p (by omega) p3.lt).trans p3
  · split
    · simp; omega
    · split
      · simp; omega
      · simp; omega

set_option maxHeartbeats 2000000 in
theorem build_pair (b off n cap p k z : Nat) (zs : Nat → Nat) (w : World) (hn : n ≤ 1024) (hk : k < n) (hp : PosAt w p k) (hz : z < 256) (h3 : 2 ≤ z % 3) (hc : w.cell? ⟨b, off + k, none⟩ = some (.int .u8 z)) (hd : DataAt w (some ⟨b, off, none⟩) n zs)
    (ih : Hid (∀ k' w', k < k' → k' ≤ n → PosAt w' p k' → DataAt w' (some ⟨b, off, none⟩) n zs → Calls Yba.prog 11 #[.slice (some ⟨b, off, none⟩) n cap, .pointer (some ⟨p, 0, none⟩)] w' fun e w'' => Built n p k' w' e w'')) :
    Calls Yba.prog 11 #[.slice (some ⟨b, off, none⟩) n cap, .pointer (some ⟨p, 0, none⟩)] w fun e w' => Built n p k w e w' := by
  obtain ⟨c0, f0⟩ := hp.cell
  have hlt := hp.lt
  have hb : b < w.heap.size := block_lt_of_cell hc
  have HP : Hid (PosAt w p k) := hp
  have HD : Hid (DataAt w (some ⟨b, off, none⟩) n zs) := hd
  -- the world at the first call
  have hs := pos_set hp (k + 1)
  rw [show ((k + 1 : Nat) : Int) = (k : Int) + 1 by omega] at hs
  have hB1 : Below (w.setCell ⟨p, 0, none⟩ (.int .i64 ((k : Int) + 1))).heap.size (w.setCell ⟨p, 0, none⟩ (.int .i64 ((k : Int) + 1))) ((w.setCell ⟨p, 0, none⟩ (.int .i64 ((k : Int) + 1))).alloc (.cells #[.pointer none, .pointer none, .bool false] 36)) := (Below.refl _ _).alloc (Nat.le_refl _) _
  have P1 : PosAt ((w.setCell ⟨p, 0, none⟩ (.int .i64 ((k : Int) + 1))).alloc (.cells #[.pointer none, .pointer none, .bool false] 36)) p (k + 1) := (hB1.block _ hs.1.lt).trans hs.1
  have U1 : But p w ((w.setCell ⟨p, 0, none⟩ (.int .i64 ((k : Int) + 1))).alloc (.cells #[.pointer none, .pointer none, .bool false] 36)) := hs.2.trans (But.of_below hB1)
  have D1 := hd.but U1 hp
  have N1 : Node ((w.setCell ⟨p, 0, none⟩ (.int .i64 ((k : Int) + 1))).alloc (.cells #[.pointer none, .pointer none, .bool false] 36)) w.heap.size none none false := by
    have := node_new (w.setCell ⟨p, 0, none⟩ (.int .i64 ((k : Int) + 1))) none none false
    simpa [World.setCell] using this
  have I1 : Hid (Calls Yba.prog 11 _ _ _) := ih.out (k + 1) _ (by omega) (by omega) P1 D1
  have HX : Hid (_ ∧ _ ∧ _ ∧ _) := ⟨P1, U1, D1, N1⟩
  clear hp hd hs hB1 P1 U1 D1 N1
  go_enter Yba.func11, Yba.ntmps11
  go_wp2_with fail
  refine I1.out.mono ?_
  rintro e w2 ⟨l1, r1, o1, d1, b1, k1, rfl, p2, hk1, hk1n, en1, len1, u2⟩
  obtain ⟨P1, U1, D1, N1⟩ := HX.out
  have t2 := (u2.nodes P1) _ _ _ _ (Nat.zero_le _) N1
  have hB2 : Below w2.heap.size w2 (w2.alloc (.cells #[.pointer l1, .pointer r1, .bool o1] 36)) := (Below.refl _ _).alloc (Nat.le_refl _) _
  have D2 := D1.but u2 P1
  have I2 : Hid (Calls Yba.prog 11 _ _ _) := ih.out k1 (w2.alloc (.cells #[.pointer l1, .pointer r1, .bool o1] 36)) (by omega) hk1n ((hB2.block _ p2.lt).trans p2) (D2.below (p := 0) hB2)
  have hlt2 := t2.lt
  have HY : Hid (_ ∧ _ ∧ _ ∧ _ ∧ _ ∧ _) := ⟨p2, en1, len1, u2, t2, hB2⟩
  clear p2 en1 len1 u2 t2 hB2 P1 U1 D1 N1 D2
  go_wp2_with fail
  refine I2.out.mono ?_
  rintro e w3 ⟨l2, r2, o2, d2, b2, k2, rfl, p3, hk2, hk2n, en2, len2, u3⟩
  obtain ⟨p2, en1, len1, u2, t2, hB2⟩ := HY.out
  have P2 : PosAt (w2.alloc (.cells #[.pointer l1, .pointer r1, .bool o1] 36)) p k1 := (hB2.block _ p2.lt).trans p2
  have nod := u3.nodes P2
  have t3 := nod _ _ _ _ (Nat.zero_le _) (Nodes.below hB2 _ _ _ _ (Nat.zero_le _) t2)
  have L3 := nod _ _ _ _ (Nat.zero_le _) (node_new w2 l1 r1 o1)
  obtain ⟨q0, q1, q2, qf⟩ := t3.cells
  have hlt3 := t3.lt
  have HZ : Hid (_ ∧ _ ∧ _ ∧ _ ∧ _ ∧ _ ∧ _) := ⟨p3, en2, len2, u3, t3, L3, P2⟩
  clear p3 en2 len2 u3 t3 L3 P2 p2 en1 len1 u2 t2 hB2 nod
  go_wp2_with fail
  obtain ⟨p2, en1, len1, u2, t2, hB2⟩ := HY.out
  obtain ⟨p3, en2, len2, u3, t3, L3, P2⟩ := HZ.out
  obtain ⟨P1, U1, D1, N1⟩ := HX.out
  have hN := node_set t3 (some ⟨w2.heap.size, 0, none⟩) (some ⟨w3.heap.size, 0, none⟩) false
  have hN' := (Nodes.below ((Below.refl _ _).alloc (Nat.le_refl _) (.cells #[.pointer l2, .pointer r2, .bool o2] 36))) _ _ _ _ (Nat.zero_le _) hN
  obtain ⟨z0, z1, z2, -⟩ := hN'.cells
  exact bodyPost_ret (v := .agg #[.pointer (some ⟨w2.heap.size, 0, none⟩), .pointer (some ⟨w3.heap.size, 0, none⟩), .bool false]) (by simp [results, Yba.results11, go_sem, z0, z1, z2]) rfl
    (built_pair HP.out hk P1 U1 (by simp [World.setCell]) hk1 hk1n p2 en1 len1 u2 hk2 hk2n p3 en2 len2 u3 L3 P2 _ _ _)

/-- zzs0291cbuild. -/
theorem build_any (a : Option Addr) (n cap p : Nat) (zs : Nat → Nat) (hn : n ≤ 1024) (hzs : ∀ i, zs i < 256) : ∀ (m k : Nat) (w : World), n - k ≤ m → k ≤ n → PosAt w p k → DataAt w a n zs →
    Calls Yba.prog 11 #[.slice a n cap, .pointer (some ⟨p, 0, none⟩)] w fun e w' => Built n p k w e w'
  | 0, k, w, hm, hkn, hp, hd => build_end a n cap p k w hn (by omega) hkn hp
  | m + 1, k, w, hm, hkn, hp, hd => by
    by_cases hk : n ≤ k
    · exact build_end a n cap p k w hn hk hkn hp
    · obtain ⟨b, off, rfl, hc⟩ := hd (by omega)
      have hck := hc k (by omega)
      have h3 : zs k % 3 = 0 ∨ zs k % 3 = 1 ∨ zs k % 3 = 2 := by omega
      rcases h3 with h3 | h3 | h3
      · exact build_zero b off n cap p k (zs k) w hn (by omega) hp (hzs k) (by omega) hck
      · exact build_one b off n cap p k (zs k) w hn (by omega) hp (hzs k) (by omega) (by omega) hck
      · exact build_pair b off n cap p k (zs k) zs w hn (by omega) hp (hzs k) (by omega) hck hd
          (fun k' w' hk' hkn' hp' hd' => build_any (some ⟨b, off, none⟩) n cap p zs hn hzs m k' w' (by omega) hkn' hp' hd')

end Go.Proofs.Ybulkezs
