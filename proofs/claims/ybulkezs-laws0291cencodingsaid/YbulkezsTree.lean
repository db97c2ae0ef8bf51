import Derived.Test.YbulkezsRows
import Derived.Test.YbulkezsMath
import Derived.WalkKit
import Derived.WalkSpells
import Derived.WalkSmall
import Derived.BigQuiet
import Derived.Deep.RegionHeld3
namespace Go.Proofs.Ybulkezs
open Go.RowKit
set_option linter.unusedVariables false

/-- A node of an id tree: block g. -/
def Node (w : World) (g : Nat) (l r : Option Addr) (o : Bool) : Prop := w.heap[g]? = some (.cells #[.pointer l, .pointer r, .bool o] 36 (0, 0))

/-- Is the id 0? -/
def zeroB (l : Option Addr) (o : Bool) : Bool := l.isNone && !o

/-- The id with these three cells is coded by the bits bs; d bounds its depth; its nodes lie from block B on. -/
def Enc (B : Nat) : Nat → World → Option Addr → Option Addr → Bool → List Bool → Prop
  | 0, _, _, _, _, _ => False
  | d + 1, w, l, r, o, bs => (l = none ∧ bs = [false, false, o]) ∨
      ∃ g h l1 r1 o1 l2 r2 o2 b1 b2, l = some ⟨g, 0, none⟩ ∧ r = some ⟨h, 0, none⟩ ∧ (B ≤ g ∧ B ≤ h) ∧ Node w g l1 r1 o1 ∧ Node w h l2 r2 o2 ∧ Enc B d w l1 r1 o1 b1 ∧ Enc B d w l2 r2 o2 b2 ∧
        bs = if zeroB l1 o1 then [false, true] ++ b2 else if zeroB l2 o2 then [true, false] ++ b1 else [true, true] ++ (b1 ++ b2)

/-- Every node from block B on is as it was. -/
def Nodes (B : Nat) (w w' : World) : Prop := ∀ g l r o, B ≤ g → Node w g l r o → Node w' g l r o

theorem Nodes.refl (B : Nat) (w : World) : Nodes B w w := fun _ _ _ _ _ h => h
theorem Nodes.trans {B : Nat} {a b c : World} (h : Nodes B a b) (k : Nodes B b c) : Nodes B a c := fun g l r o hg hn => k g l r o hg (h g l r o hg hn)
theorem Nodes.mono {B B' : Nat} {w w' : World} (h : Nodes B w w') (hB : B ≤ B') : Nodes B' w w' := fun g l r o hg hn => h g l r o (by omega) hn
theorem Node.lt {w : World} {g : Nat} {l r : Option Addr} {o : Bool} (h : Node w g l r o) : g < w.heap.size := (Array.getElem?_eq_some_iff.1 h).1
theorem Nodes.below {w w' : World} (h : Below w.heap.size w w') : Nodes 0 w w' := fun g l r o _ hn => (h.block g hn.lt).trans hn

theorem Enc.mono : ∀ {B d : Nat} {w w' : World} {l r : Option Addr} {o : Bool} {bs : List Bool}, Nodes B w w' → Enc B d w l r o bs → Enc B d w' l r o bs
  | _, 0, _, _, _, _, _, _, _, h => h
  | _, d + 1, _, _, _, _, _, _, hn, h => by
    rcases h with h | ⟨g, h', l1, r1, o1, l2, r2, o2, b1, b2, e1, e2, hB, n1, n2, c1, c2, e3⟩
    · exact .inl h
    · exact .inr ⟨g, h', l1, r1, o1, l2, r2, o2, b1, b2, e1, e2, hB, hn _ _ _ _ hB.1 n1, hn _ _ _ _ hB.2 n2, c1.mono hn, c2.mono hn, e3⟩
theorem Enc.base : ∀ {B B' d : Nat} {w : World} {l r : Option Addr} {o : Bool} {bs : List Bool}, B' ≤ B → Enc B d w l r o bs → Enc B' d w l r o bs
  | _, _, 0, _, _, _, _, _, _, h => h
  | _, _, d + 1, _, _, _, _, _, hle, h => by
    rcases h with h | ⟨g, h', l1, r1, o1, l2, r2, o2, b1, b2, e1, e2, hB, n1, n2, c1, c2, e3⟩
    · exact .inl h
    · exact .inr ⟨g, h', l1, r1, o1, l2, r2, o2, b1, b2, e1, e2, ⟨by omega, by omega⟩, n1, n2, c1.base hle, c2.base hle, e3⟩

theorem Enc.succ : ∀ {B d : Nat} {w : World} {l r : Option Addr} {o : Bool} {bs : List Bool}, Enc B d w l r o bs → Enc B (d + 1) w l r o bs
  | _, 0, _, _, _, _, _, h => h.elim
  | _, d + 1, _, _, _, _, _, h => by
    rcases h with h | ⟨g, h', l1, r1, o1, l2, r2, o2, b1, b2, e1, e2, hB, n1, n2, c1, c2, e3⟩
    · exact .inl h
    · exact .inr ⟨g, h', l1, r1, o1, l2, r2, o2, b1, b2, e1, e2, hB, n1, n2, c1.succ, c2.succ, e3⟩
theorem Enc.le {B d d' : Nat} {w : World} {l r : Option Addr} {o : Bool} {bs : List Bool} (h : Enc B d w l r o bs) (hd : d ≤ d') : Enc B d' w l r o bs := by
  obtain ⟨k, rfl⟩ := Nat.exists_eq_add_of_le hd
  induction k with
  | zero => exact h
  | succ k ih => exact (ih (by omega)).succ

/-- A node's three cells; none is frozen. -/
theorem Node.cells {w : World} {g : Nat} {l r : Option Addr} {o : Bool} (h : Node w g l r o) :
    w.cell? ⟨g, 0, none⟩ = some (.pointer l) ∧ w.cell? ⟨g, 1, none⟩ = some (.pointer r) ∧ w.cell? ⟨g, 2, none⟩ = some (.bool o) ∧ ∀ j, w.frozen? ⟨g, j, none⟩ = false := by
  unfold Node at h
  refine ⟨?_, ?_, ?_, fun j => ?_⟩
  · simp [World.cell?, h]
  · simp [World.cell?, h]
  · simp [World.cell?, h]
  · simp [World.frozen?, h]

set_option maxHeartbeats 400000 in
theorem isLeaf_any (l r : Option Addr) (o : Bool) (w : World) :
    Calls Yba.prog 25 #[.agg #[.pointer l, .pointer r, .bool o]] w fun e w' => e = .returned (.bool l.isNone) ∧ Below w.heap.size w w' := by
  cases l with
  | none =>
    go_enter Yba.func25, Yba.ntmps25
    go_wp2
    go_ret
    exact ⟨rfl, (Below.refl _ _).alloc (Nat.le_refl _) _⟩
  | some x =>
    go_enter Yba.func25, Yba.ntmps25
    go_wp2
    go_ret
    exact ⟨rfl, (Below.refl _ _).alloc (Nat.le_refl _) _⟩

set_option maxHeartbeats 400000 in
theorem isZero_any (l r : Option Addr) (o : Bool) (w : World) :
    Calls Yba.prog 24 #[.agg #[.pointer l, .pointer r, .bool o]] w fun e w' => e = .returned (.bool (zeroB l o)) ∧ Below w.heap.size w w' := by
  have hz1 : Hid (∀ x, zeroB (some x) o = false) := fun x => rfl
  have hz0 : Hid (zeroB none o = !o) := rfl
  cases l with
  | none =>
    go_enter Yba.func24, Yba.ntmps24
    go_wp2
    go_ret
    exact ⟨rfl, ((Below.refl _ _).alloc (Nat.le_refl _) _).alloc (by simp) _⟩
  | some x =>
    go_enter Yba.func24, Yba.ntmps24
    go_wp2
    go_ret
    exact ⟨rfl, ((Below.refl _ _).alloc (Nat.le_refl _) _).alloc (by simp) _⟩

/-- pairCode's answer. -/
def pairB (z1 z2 : Bool) : Nat := if z1 then 1034 else if z2 then 530 else 1562

set_option maxHeartbeats 400000 in
theorem pairCode_any (l1 r1 : Option Addr) (o1 : Bool) (l2 r2 : Option Addr) (o2 : Bool) (w : World) :
    Calls Yba.prog 26 #[.agg #[.pointer l1, .pointer r1, .bool o1], .agg #[.pointer l2, .pointer r2, .bool o2]] w fun e w' => e = .returned (.int .u16 (pairB (zeroB l1 o1) (zeroB l2 o2) : Nat)) ∧ Below w.heap.size w w' := by
  have h1 := isZero_any l1 r1 o1
  have h2 := isZero_any l2 r2 o2
  generalize zeroB l1 o1 = z1 at *
  generalize zeroB l2 o2 = z2 at *
  have H1 : Hid (∀ w, Calls Yba.prog 24 #[.agg #[.pointer l1, .pointer r1, .bool o1]] w fun e w' => e = .returned (.bool z1) ∧ Below w.heap.size w w') := h1
  have H2 : Hid (∀ w, Calls Yba.prog 24 #[.agg #[.pointer l2, .pointer r2, .bool o2]] w fun e w' => e = .returned (.bool z2) ∧ Below w.heap.size w w') := h2
  clear h1 h2
  go_enter Yba.func26, Yba.ntmps26
  go_wp2_with fail
  refine (H1.out _).mono ?_
  rintro e w1 ⟨rfl, hB⟩
  have hB' : Below (w.heap.size + 1 + 1) ((w.alloc (.cells #[.pointer l1, .pointer r1, .bool o1] 36)).alloc (.cells #[.pointer l2, .pointer r2, .bool o2] 36)) w1 := by simpa using hB
  have b0 : Below w.heap.size w w1 := (((Below.refl _ _).alloc (Nat.le_refl _) _).alloc (by simp) _).trans (hB'.mono (by omega))
  have c0 : w1.cell? ⟨w.heap.size + 1, 0, none⟩ = some (.pointer l2) := (hB'.cell (p := ⟨w.heap.size + 1, 0, none⟩) (by simp)).trans (by simp [World.cell?_alloc_at])
  have c1 : w1.cell? ⟨w.heap.size + 1, 1, none⟩ = some (.pointer r2) := (hB'.cell (p := ⟨w.heap.size + 1, 1, none⟩) (by simp)).trans (by simp [World.cell?_alloc_at])
  have c2 : w1.cell? ⟨w.heap.size + 1, 2, none⟩ = some (.bool o2) := (hB'.cell (p := ⟨w.heap.size + 1, 2, none⟩) (by simp)).trans (by simp [World.cell?_alloc_at])
  clear hB hB'
  cases z1
  · go_wp2_with fail
    refine (H2.out _).mono ?_
    rintro e w2 ⟨rfl, hB2⟩
    cases z2
    · go_wp2_with fail
      go_ret
      exact ⟨rfl, b0.trans (hB2.mono b0.size)⟩
    · go_wp2_with fail
      go_ret
      exact ⟨rfl, b0.trans (hB2.mono b0.size)⟩
  · go_wp2_with fail
    go_ret
    exact ⟨rfl, b0⟩

set_option maxHeartbeats 400000 in
theorem code_leaf (r : Option Addr) (o : Bool) (w : World) :
    Calls Yba.prog 16 #[.agg #[.pointer none, .pointer r, .bool o]] w fun e w' => e = .returned (.int .u16 (if o then 11 else 3 : Nat)) ∧ Below w.heap.size w w' := by
  cases o
  · go_enter Yba.func16, Yba.ntmps16
    go_wp2
    go_ret
    exact ⟨rfl, (((Below.refl _ _).alloc (Nat.le_refl _) _).alloc (by simp) _).alloc (by simp; omega) _⟩
  · go_enter Yba.func16, Yba.ntmps16
    go_wp2
    go_ret
    exact ⟨rfl, ((((Below.refl _ _).alloc (Nat.le_refl _) _).alloc (by simp) _).alloc (by simp; omega) _).alloc (by simp; omega) _⟩

/-- What a walk over a pair reads: the box's first two cells, the two nodes' cells. -/
def PairHeld (N g h : Nat) (l1 r1 : Option Addr) (o1 : Bool) (l2 r2 : Option Addr) (o2 : Bool) (w' : World) : Prop :=
  (w'.cell? ⟨N, 0, none⟩ = some (.pointer (some ⟨g, 0, none⟩)) ∧ w'.cell? ⟨N, 1, none⟩ = some (.pointer (some ⟨h, 0, none⟩))) ∧ (w'.cell? ⟨g, 0, none⟩ = some (.pointer l1) ∧ w'.cell? ⟨g, 1, none⟩ = some (.pointer r1) ∧ w'.cell? ⟨g, 2, none⟩ = some (.bool o1)) ∧ (w'.cell? ⟨h, 0, none⟩ = some (.pointer l2) ∧ w'.cell? ⟨h, 1, none⟩ = some (.pointer r2) ∧ w'.cell? ⟨h, 2, none⟩ = some (.bool o2))
theorem cellB {W w' : World} {a : Addr} {v : Value} (hB : Below W.heap.size W w') (h : W.cell? a = some v) : w'.cell? a = some v := (hB.cell (block_lt_of_cell h)).trans h
theorem PairHeld.below {N g h : Nat} {l1 r1 : Option Addr} {o1 : Bool} {l2 r2 : Option Addr} {o2 : Bool} {W w' : World} (hB : Below W.heap.size W w') (hS : PairHeld N g h l1 r1 o1 l2 r2 o2 W) : PairHeld N g h l1 r1 o1 l2 r2 o2 w' := by
  obtain ⟨⟨h1, h2⟩, ⟨h3, h4, h5⟩, h6, h7, h8⟩ := hS
  exact ⟨⟨cellB hB h1, cellB hB h2⟩, ⟨cellB hB h3, cellB hB h4, cellB hB h5⟩, cellB hB h6, cellB hB h7, cellB hB h8⟩
theorem PairHeld.box {g h : Nat} {o : Bool} {l1 r1 : Option Addr} {o1 : Bool} {l2 r2 : Option Addr} {o2 : Bool} {w : World} (n1 : Node w g l1 r1 o1) (n2 : Node w h l2 r2 o2) :
    PairHeld w.heap.size g h l1 r1 o1 l2 r2 o2 (w.alloc (.cells #[.pointer (some ⟨g, 0, none⟩), .pointer (some ⟨h, 0, none⟩), .bool o] 36)) := by
  obtain ⟨a0, a1, a2, -⟩ := n1.cells
  obtain ⟨b0, b1, b2, -⟩ := n2.cells
  have hB : Below w.heap.size w (w.alloc (.cells #[.pointer (some ⟨g, 0, none⟩), .pointer (some ⟨h, 0, none⟩), .bool o] 36)) := (Below.refl _ _).alloc (Nat.le_refl _) _
  exact ⟨⟨by simp [World.cell?_alloc_at], by simp [World.cell?_alloc_at]⟩, ⟨cellB hB a0, cellB hB a1, cellB hB a2⟩, cellB hB b0, cellB hB b1, cellB hB b2⟩

set_option maxHeartbeats 1000000 in
theorem code_pair (g h : Nat) (o : Bool) (l1 r1 : Option Addr) (o1 : Bool) (l2 r2 : Option Addr) (o2 : Bool) (w : World) (n1 : Node w g l1 r1 o1) (n2 : Node w h l2 r2 o2) :
    Calls Yba.prog 16 #[.agg #[.pointer (some ⟨g, 0, none⟩), .pointer (some ⟨h, 0, none⟩), .bool o]] w fun e w' => e = .returned (.int .u16 (pairB (zeroB l1 o1) (zeroB l2 o2) : Nat)) ∧ Below w.heap.size w w' := by
  have k1 := PairHeld.box (o := o) n1 n2
  generalize hBx : Obj.cells #[.pointer (some ⟨g, 0, none⟩), .pointer (some ⟨h, 0, none⟩), .bool o] 36 = Bx at k1
  have bel : Below (w.alloc Bx).heap.size (w.alloc Bx) ((((w.alloc Bx).alloc Bx).alloc Bx).alloc Bx).drew := ((((Below.refl _ _).alloc (Nat.le_refl _) _).alloc (by simp) _).alloc (by simp) _).drew
  have k0 := k1.below bel
  have belw : Hid (Below w.heap.size w ((((w.alloc Bx).alloc Bx).alloc Bx).alloc Bx).drew) := ((Below.refl _ _).alloc (Nat.le_refl _) _).trans (bel.mono (by simp))
  clear k1 bel
  subst hBx
  have K0 : Hid _ := k0
  have H : Hid (∀ w, Calls Yba.prog 26 #[.agg #[.pointer l1, .pointer r1, .bool o1], .agg #[.pointer l2, .pointer r2, .bool o2]] w fun e w' => e = .returned (.int .u16 (pairB (zeroB l1 o1) (zeroB l2 o2) : Nat)) ∧ Below w.heap.size w w') := pairCode_any l1 r1 o1 l2 r2 o2
  generalize pairB (zeroB l1 o1) (zeroB l2 o2) = c at *
  clear n1 n2 k0
  go_enter Yba.func16, Yba.ntmps16
  go_wp2
  go_region_held3 (fun w' => (w'.cell? ⟨w.heap.size, 0, none⟩ = some (.pointer (some ⟨g, 0, none⟩)) ∧ w'.cell? ⟨w.heap.size, 1, none⟩ = some (.pointer (some ⟨h, 0, none⟩))) ∧ (w'.cell? ⟨g, 0, none⟩ = some (.pointer l1) ∧ w'.cell? ⟨g, 1, none⟩ = some (.pointer r1) ∧ w'.cell? ⟨g, 2, none⟩ = some (.bool o1)) ∧ (w'.cell? ⟨h, 0, none⟩ = some (.pointer l2) ∧ w'.cell? ⟨h, 1, none⟩ = some (.pointer r2) ∧ w'.cell? ⟨h, 2, none⟩ = some (.bool o2)))
    (first | exact K0.out | exact PairHeld.below hB K0.out)
    (first | (go_at_call 26; refine (H.out _).mono ?_; rintro e w' ⟨rfl, hB⟩))
  go_wp2
  go_ret
  exact ⟨rfl, belw.out.trans (hB.mono belw.out.size)⟩

set_option maxHeartbeats 1000000 in
theorem halves_leaf (r : Option Addr) (o : Bool) (w : World) :
    Calls Yba.prog 20 #[.agg #[.pointer none, .pointer r, .bool o]] w fun e w' => e = .returned (.tuple #[.agg #[.pointer none, .pointer r, .bool o], .agg #[.pointer none, .pointer r, .bool o]]) ∧ Below w.heap.size w w' := by
  go_enter Yba.func20, Yba.ntmps20
  go_wp2
  go_region
  go_wp2
  exact bodyPost_ret (v := .tuple #[.agg #[.pointer none, .pointer r, .bool o], .agg #[.pointer none, .pointer r, .bool o]]) (by simp [results, Yba.results20, go_sem]) rfl ⟨rfl, (((((Below.refl _ _).alloc (Nat.le_refl _) _).alloc (by simp) _).alloc (by simp; omega) _).alloc (by simp; omega) _).drew⟩

theorem cell4 {w : World} {b off : Nat} {v : Value} (hc : w.cell? ⟨b, off, none⟩ = some v) (o1 o2 o3 o4 : Obj) : ((((w.alloc o1).alloc o2).alloc o3).alloc o4).cell? ⟨b, off, none⟩ = some v := by
  have hb : b < w.heap.size := block_lt_of_cell hc
  rw [World.cell?_alloc_past _ _ _ (by simp; omega), World.cell?_alloc_past _ _ _ (by simp; omega), World.cell?_alloc_past _ _ _ (by simp; omega), World.cell?_alloc_past _ _ _ hb]
  exact hc

set_option maxHeartbeats 1000000 in
theorem halves_pair (g h : Nat) (o : Bool) (l1 r1 : Option Addr) (o1 : Bool) (l2 r2 : Option Addr) (o2 : Bool) (w : World) (n1 : Node w g l1 r1 o1) (n2 : Node w h l2 r2 o2) :
    Calls Yba.prog 20 #[.agg #[.pointer (some ⟨g, 0, none⟩), .pointer (some ⟨h, 0, none⟩), .bool o]] w fun e w' => e = .returned (.tuple #[.agg #[.pointer l1, .pointer r1, .bool o1], .agg #[.pointer l2, .pointer r2, .bool o2]]) ∧ Below w.heap.size w w' := by
  obtain ⟨a0, a1, a2, -⟩ := n1.cells
  obtain ⟨b0, b1, b2, -⟩ := n2.cells
  have A0 := cell4 a0
  have A1 := cell4 a1
  have A2 := cell4 a2
  have B0 := cell4 b0
  have B1 := cell4 b1
  have B2 := cell4 b2
  clear a0 a1 a2 b0 b1 b2 n1 n2
  go_enter Yba.func20, Yba.ntmps20
  go_wp2
  go_region
  go_wp2
  exact bodyPost_ret (v := .tuple #[.agg #[.pointer l1, .pointer r1, .bool o1], .agg #[.pointer l2, .pointer r2, .bool o2]]) (by simp [results, Yba.results20, go_sem]) rfl ⟨rfl, (((((Below.refl _ _).alloc (Nat.le_refl _) _).alloc (by simp) _).alloc (by simp; omega) _).alloc (by simp; omega) _).drew⟩

/-! ### The code's three readings, at the five codes -/
theorem bits_any (c v : Nat) (hc : c = 3 ∧ v = 0 ∨ c = 11 ∧ v = 1 ∨ c = 1034 ∧ v = 1 ∨ c = 530 ∧ v = 2 ∨ c = 1562 ∧ v = 3) (w : World) : Calls Yba.prog 18 #[.int .u16 c] w fun e w' => e = .returned (.int .u64 v) ∧ w' = w := by
  rcases hc with ⟨rfl, rfl⟩ | ⟨rfl, rfl⟩ | ⟨rfl, rfl⟩ | ⟨rfl, rfl⟩ | ⟨rfl, rfl⟩
  all_goals
    go_enter Yba.func18, Yba.ntmps18
    go_wp2
    go_ret
    exact ⟨rfl, rfl⟩
theorem len_any (c v : Nat) (hc : c = 3 ∧ v = 3 ∨ c = 11 ∧ v = 3 ∨ c = 1034 ∧ v = 2 ∨ c = 530 ∧ v = 2 ∨ c = 1562 ∧ v = 2) (w : World) : Calls Yba.prog 19 #[.int .u16 c] w fun e w' => e = .returned (.int .i64 v) ∧ w' = w := by
  rcases hc with ⟨rfl, rfl⟩ | ⟨rfl, rfl⟩ | ⟨rfl, rfl⟩ | ⟨rfl, rfl⟩ | ⟨rfl, rfl⟩
  all_goals
    go_enter Yba.func19, Yba.ntmps19
    go_wp2
    go_ret
    exact ⟨congrArg (fun z => Ending.returned (Value.int .i64 z)) (by decide +kernel), rfl⟩
theorem left_any (c : Nat) (v : Bool) (hc : c = 3 ∧ v = false ∨ c = 11 ∧ v = false ∨ c = 1034 ∧ v = false ∨ c = 530 ∧ v = true ∨ c = 1562 ∧ v = true) (w : World) : Calls Yba.prog 21 #[.int .u16 c, .int .u16 512] w fun e w' => e = .returned (.bool v) ∧ w' = w := by
  rcases hc with ⟨rfl, rfl⟩ | ⟨rfl, rfl⟩ | ⟨rfl, rfl⟩ | ⟨rfl, rfl⟩ | ⟨rfl, rfl⟩
  all_goals
    go_enter Yba.func21, Yba.ntmps21
    go_wp2
    go_ret
    exact ⟨rfl, rfl⟩
theorem right_any (c : Nat) (v : Bool) (hc : c = 3 ∧ v = false ∨ c = 11 ∧ v = false ∨ c = 1034 ∧ v = true ∨ c = 530 ∧ v = false ∨ c = 1562 ∧ v = true) (w : World) : Calls Yba.prog 21 #[.int .u16 c, .int .u16 1024] w fun e w' => e = .returned (.bool v) ∧ w' = w := by
  rcases hc with ⟨rfl, rfl⟩ | ⟨rfl, rfl⟩ | ⟨rfl, rfl⟩ | ⟨rfl, rfl⟩ | ⟨rfl, rfl⟩
  all_goals
    go_enter Yba.func21, Yba.ntmps21
    go_wp2
    go_ret
    exact ⟨rfl, rfl⟩

set_option maxHeartbeats 400000 in
/-- zzs0291czero. -/
theorem czero_any (g : Nat) (l r : Option Addr) (o : Bool) (w : World) (h : Node w g l r o) :
    Calls Yba.prog 23 #[.pointer (some ⟨g, 0, none⟩)] w fun e w' => e = .returned (.bool (zeroB l o)) ∧ w' = w := by
  obtain ⟨a0, a1, a2, -⟩ := h.cells
  clear h
  cases l with
  | none =>
    go_enter Yba.func23, Yba.ntmps23
    go_wp2
    go_ret
    exact ⟨rfl, rfl⟩
  | some x =>
    go_enter Yba.func23, Yba.ntmps23
    go_wp2
    go_ret
    exact ⟨rfl, rfl⟩

end Go.Proofs.Ybulkezs
