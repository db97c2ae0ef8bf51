import Derived.Test.YbulkeycDoorNcell
import Derived.Test.YbulkeycDoorNorm
import Derived.Test.YbulkeycDoorSpdq
import Derived.Deep.OwnRows
import Derived.Deep.Slices
/- zzs0288abuild: the cells, sorted. -/
namespace Go.Proofs.YbulkeycDoor
open Go.RowKit N
open Go.Sort (PermIn SortedIn ltInt permIn_all)
set_option linter.unusedVariables false

theorem info26 : (Ybad.prog.info? 26).map (fun i => (i.zero, i.size, i.bytes)) = some (some (.int .u64 0), 1, 8) := by kernel_rfl

/-- A block that is none of the row's reads as ever. -/
theorem SW.keep {g : Nat} {w0 w : World} {d : Array Int} (h : SW g w0 d w) (b o : Nat) (hb : b < w0.heap.size) (hne : b ≠ g) : w.cell? ⟨b, o, none⟩ = w0.cell? ⟨b, o, none⟩ := by
  simp only [World.cell?]
  rw [h.block b hb hne]

/-- What the slice of cells holds. -/
structure Src (n : Nat) (F L X : Nat → Nat) (a : Addr) (w : World) : Prop where
  spot : a.spot = none
  blk : a.block < w.heap.size
  c0 : ∀ i, i < n → w.cell? ⟨a.block, a.off + i * 3, none⟩ = some (.int .u8 (F i : Int))
  c1 : ∀ i, i < n → w.cell? ⟨a.block, a.off + i * 3 + 1, none⟩ = some (.int .u8 (L i : Int))
  c2 : ∀ i, i < n → w.cell? ⟨a.block, a.off + i * 3 + 2, none⟩ = some (.int .u64 (X i : Int))

def Built (n : Nat) (g : Nat) (w0 : World) (e : Ending) (w' : World) : Prop :=
  ∃ (S : Nat → C) (d : Array Int), e = .returned (.slice (some ⟨g, 0, none⟩) n n) ∧ SW g w0 d w' ∧ Row n 0 S [] d ∧ (∀ j, j < n → Ok (S j)) ∧ ∀ i j, i ≤ j → j < n → idOf (S i) ≤ idOf (S j)

theorem made_row (n : Nat) (w : World) : SW w.heap.size (w.alloc (.cells (madeCells #[.int .u64 0] n) 26)) (Array.replicate n 0) (w.alloc (.cells (madeCells #[.int .u64 0] n) 26)) := by
  refine ⟨?_, rfl, rfl, rfl, Nat.le_refl _, fun _ _ _ => rfl⟩
  rw [heap_alloc_new]
  congr 2
  apply Array.ext
  · simp [madeCells]
  · intro i h1 h2
    have e : i % 1 = 0 := by omega
    simp [madeCells, encU, e]

set_option maxHeartbeats 2000000 in
theorem build_core (a : Option Addr) (n cap g : Nat) (F L X : Nat → Nat) (w w0 : World) (hn : n ≤ 512) (hF : Hid (∀ i, F i < 256)) (hL : Hid (∀ i, L i < 256)) (hX : Hid (∀ i, X i < 18446744073709551616))
    (HG : Hid (g = w.heap.size)) (HW0 : Hid (w0 = w.alloc (.cells (madeCells #[.int .u64 0] n) 26)))
    (hA : Hid (0 < n → ∃ b off, a = some ⟨b, off, none⟩ ∧ Src n F L X ⟨b, off, none⟩ w)) :
    Calls Ybad.prog 7 #[.slice a n cap] w fun e w' => Built n g w0 e w' := by
  have hmk := run_make_row' (P := Ybad.prog) 23 26 (.int .u64 0) 8 Ybad.underlying23 info26 rfl .i64 .i64 n (by omega) (by omega)
  have MR : Hid (SW g w0 (Array.replicate n 0) w0) := by rw [HG.out, HW0.out]; exact made_row n w
  have LT : Hid (∀ b, b < w.heap.size → b < w0.heap.size ∧ ∀ o, w0.cell? ⟨b, o, none⟩ = w.cell? ⟨b, o, none⟩) := by
    rw [HW0.out]
    exact fun b hb => ⟨by simp; omega, fun o => World.cell?_alloc_past _ _ _ hb⟩
  go_enter Ybad.func7, Ybad.ntmps7
  go_wp2_with fail
  rw [← HW0.out, ← HG.out]
  go_loopw [4] (fun v wr => ∃ (i : Nat) (d : Array Int), v = .int .i64 i ∧ i ≤ n ∧ SW g w0 d wr ∧ d.size = n ∧ ∀ j, j < i → d[j]! = ((idOf (cOf (F j) (L j) (X j)) : Nat) : Int)) (fun v _ => n - (intOf v).toNat)
  case atStart => exact ⟨0, _, rfl, Nat.zero_le _, MR.out, by simp, fun j hj => absurd hj (Nat.not_lt_zero _)⟩
  case round =>
    obtain ⟨i, d, rfl, hin, hw, hsz, hd⟩ := hrel
    have HW : Hid (SW g w0 d wr) := hw
    have HD : Hid (∀ j, j < i → d[j]! = ((idOf (cOf (F j) (L j) (X j)) : Nat) : Int)) := hd
    have HSZ : Hid (d.size = n) := hsz
    clear hw hd hsz hmk
    by_cases hlt : i < n
    · obtain ⟨b, off, ha, hs⟩ := hA.out (by omega)
      subst ha
      obtain ⟨f, hf⟩ : ∃ f, f = F i := ⟨_, rfl⟩
      obtain ⟨l, hl⟩ : ∃ l, l = L i := ⟨_, rfl⟩
      obtain ⟨x, hx⟩ : ∃ x, x = X i := ⟨_, rfl⟩
      have hb : b < w.heap.size := hs.blk
      have hbg : b ≠ g := by have := HG.out; omega
      have lt := LT.out b hb
      have rd : ∀ o, wr.cell? ⟨b, o, none⟩ = w.cell? ⟨b, o, none⟩ := fun o => (HW.out.keep b o lt.1 hbg).trans (lt.2 o)
      have e0 : wr.cell? ⟨b, off + i * 3, none⟩ = some (.int .u8 (f : Int)) := by rw [rd, hf]; exact hs.c0 i hlt
      have e1 : wr.cell? ⟨b, off + i * 3 + 1, none⟩ = some (.int .u8 (l : Int)) := by rw [rd, hl]; exact hs.c1 i hlt
      have e2 : wr.cell? ⟨b, off + i * 3 + 2, none⟩ = some (.int .u64 (x : Int)) := by rw [rd, hx]; exact hs.c2 i hlt
      have AC : Hid (∀ w, Calls Ybad.prog 12 #[.agg #[.int .u8 (f : Int), .int .u8 (l : Int), .int .u64 (x : Int)]] w fun e w' => e = .returned (.int .u64 ((idOf (cOf f l x) : Nat) : Int)) ∧ w' = w.alloc (.cells #[.int .u8 (f : Int), .int .u8 (l : Int), .int .u64 (x : Int)] 40)) := fun w => acell_any f l x (by rw [hf]; exact hF.out i) (by rw [hl]; exact hL.out i) (by rw [hx]; exact hX.out i) w
      have HC : Hid (cOf f l x = cOf (F i) (L i) (X i)) := by rw [hf, hl, hx]; rfl
      clear hf hl hx hs hb hbg lt rd hA
      go_wp2_with (go_at_call 12; refine (AC.out _).mono ?_; rintro e w1 ⟨rfl, hw1⟩; have HW1 : Hid (SW g w0 d w1) := (by rw [hw1]; exact HW.out.alloc _); have fz := HW1.out.frozen i; have cc := HW1.out.cell i (by rw [HSZ.out]; exact hlt); clear hw1)
      have HN : ∀ j, j < i + 1 → (d.setIfInBounds i ((idOf (cOf f l x) : Nat) : Int))[j]! = ((idOf (cOf (F j) (L j) (X j)) : Nat) : Int) := by
        intro j hj
        have h1 := HSZ.out
        by_cases e : j = i
        · subst e
          have h2 : j < d.size := by omega
          simp [h2, HC.out]
        · rw [← HD.out j (by omega)]
          have h2 : j < d.size := by omega
          simp [h2, Ne.symm e]
      exact ⟨⟨i + 1, d.setIfInBounds i ((idOf (cOf f l x) : Nat) : Int), by go_num, hlt, HW1.out.set i _, by simp [HSZ.out], HN⟩, by simp [intOf]; omega⟩
    · have e : i = n := by omega
      subst e
      have SO : Hid (Calls Ybad.prog 13 #[.slice (some ⟨g, 0, none⟩) i i] wr fun e w' => Sorts g w0 d 0 i e w') := sort_any g i i d w0 wr HW HSZ.out (by omega)
      go_wp2_with (go_at_call 13; refine SO.out.mono ?_; rintro e w1 ⟨d', rfl, hw1, hp, hs⟩; have HW1 : Hid (SW g w0 d' w1) := hw1; have HP : Hid (PermIn 0 i d d') := hp; have HS : Hid (SortedIn ltInt 0 i d') := hs; clear hw1 hp hs)
      go_ret
      have hall : ∀ j, 0 ≤ j → j < i → ∃ c, Ok c ∧ d'[j]! = ((idOf c : Nat) : Int) :=
        permIn_all d d' 0 i (fun z => ∃ c, Ok c ∧ z = ((idOf c : Nat) : Int)) (by rw [HSZ.out]; exact Nat.le_refl _) HP.out (fun j _ hj => ⟨_, cOf_ok _ _ _, HD.out j hj⟩)
      obtain ⟨S, hS⟩ := Go.Deep.choose_lt (n := i) (fun j hj => hall j (Nat.zero_le _) hj)
      refine ⟨S, d', rfl, HW1.out, ⟨HP.out.1.trans HSZ.out, fun j h => absurd h (Nat.not_lt_zero _), fun j _ hj => (hS j hj).2, Nat.le_refl _, Norm.nil, fun p hp => (by cases hp), fun h => absurd h (Nat.lt_irrefl _)⟩, fun j hj => (hS j hj).1, fun u v huv hv => ?_⟩
      rcases Nat.lt_or_ge u v with h | h
      · have := HS.out u v (Nat.zero_le _) h hv
        rw [(hS u (by omega)).2, (hS v hv).2] at this
        simp only [ltInt, decide_eq_false_iff_not] at this
        omega
      · have e : u = v := by omega
        rw [e]
        exact Nat.le_refl _
end Go.Proofs.YbulkeycDoor
