import Derived.Test.YbulkeycDoorSinv
/- pdqsort's state: plain. -/
namespace Go.Proofs.YbulkeycDoor
open Go.Sort (PermIn SortedIn ltInt swo_ltInt permIn_trans permIn_mono permIn_all permIn_refl)
set_option linter.unusedVariables false

/-- The loop of pdqsort on [a, b) of d stands at [a', b') of dk: what is left to sort. -/
structure St (d : Array Int) (a b a' b' : Nat) (dk : Array Int) : Prop where
  size : dk.size = d.size
  perm : PermIn a b d dk
  aa : a ≤ a'
  ab : a' ≤ b'
  bb : b' ≤ b
  hb : b ≤ d.size
  below : Sort.Below ltInt a' b' dk
  fin : ∀ d', PermIn a' b' dk d' → SortedIn ltInt a' b' d' → SortedIn ltInt a b d'

theorem St.start {d : Array Int} {a b : Nat} (hab : a ≤ b) (hb : b ≤ d.size) (hB : Sort.Below ltInt a b d) : St d a b a b d :=
  ⟨rfl, permIn_refl _ _ _, Nat.le_refl _, hab, Nat.le_refl _, hb, hB, fun _ _ h => h⟩
theorem St.done {d dk d' : Array Int} {a b a' b' : Nat} (h : St d a b a' b' dk) (hp : PermIn a' b' dk d') (hs : SortedIn ltInt a' b' d') : PermIn a b d d' ∧ SortedIn ltInt a b d' := by
  have h1 := h.hb
  have h2 := h.size
  exact ⟨permIn_trans _ _ _ _ _ h.perm (permIn_mono dk d' a' b' a b h.aa h.bb (by omega) hp), h.fin d' hp hs⟩
theorem St.to {d dk d1 : Array Int} {a b a' b' : Nat} (h : St d a b a' b' dk) (hp : PermIn a' b' dk d1) : St d a b a' b' d1 := by
  have h1 := h.hb
  have h2 := h.size
  have h3 := h.bb
  refine ⟨by rw [hp.1, h.size], permIn_trans _ _ _ _ _ h.perm (permIn_mono dk d1 a' b' a b h.aa h.bb (by omega) hp), h.aa, h.ab, h.bb, h.hb, Sort.Below.perm h.below (by omega) hp, fun d' hp' hs' => h.fin d' (permIn_trans _ _ _ _ _ hp hp') hs'⟩

/-- What holds of all of [a, b) holds behind a permutation of a part. -/
theorem all_part {d d' : Array Int} {a b m n : Nat} (p : Int → Prop) (hb : b ≤ d.size) (ham : a ≤ m) (hmn : m ≤ n) (hnb : n ≤ b) (hp : PermIn m n d d') (h : ∀ i, a ≤ i → i < b → p d[i]!) : ∀ i, a ≤ i → i < b → p d'[i]! := by
  intro i h1 h2
  by_cases h3 : m ≤ i ∧ i < n
  · exact permIn_all d d' m n p (by omega) hp (fun j hj1 hj2 => h j (by omega) (by omega)) i h3.1 h3.2
  · rw [hp.2.1 i (by omega)]
    exact h i h1 h2

theorem St.equal {d dk d4 : Array Int} {a b a' b' mid p : Nat} (h : St d a b a' b' dk) (ha : 0 < a') (hp1 : a' ≤ p) (hp2 : p < b') (hl : ltInt dk[a' - 1]! dk[p]! = false) (hq : PartedEq p dk a' b' mid d4) : St d a b mid b' d4 := by
  have h1 := h.hb
  have h2 := h.size
  have h3 := h.bb
  have h4 := h.aa
  have l1 := hq.lo
  have l2 := hq.hi
  have hT := h.to hq.perm
  have sz := hq.size
  -- the pivot is the least
  have least : ∀ i, a' ≤ i → i < b' → ltInt d4[i]! d4[a']! = false := by
    rw [hq.piv]
    refine permIn_all dk d4 a' b' (fun x => ltInt x dk[p]! = false) (by omega) hq.perm ?_
    intro i hi1 hi2
    rcases h.below with e | hB
    · omega
    · exact swo_ltInt.ntrans _ _ _ (hB i hi1 hi2) hl
  refine ⟨hT.size, hT.perm, by omega, l2, h3, h1, ?_, ?_⟩
  · refine .inr fun i hi1 hi2 => ?_
    have e1 : ltInt d4[a']! d4[mid - 1]! = false := hq.left (mid - 1) (by omega) (by omega)
    have e2 : ltInt d4[a']! d4[i]! = true := hq.right i hi1 hi2
    have e3 := Sort.SWO.asymm swo_ltInt e2
    exact swo_ltInt.ntrans _ _ _ e3 e1
  · intro d' hp' hs'
    refine hT.fin d' (permIn_mono d4 d' mid b' a' b' (by omega) (Nat.le_refl _) (by omega) hp') ?_
    refine Sort.sorted_glue_eq swo_ltInt d4[a']! hs' (fun i hi1 hi2 => ?_) (fun i hi1 hi2 => ?_) (fun i hi1 hi2 => ?_)
    · rw [hp'.2.1 i (by omega)]; exact hq.left i hi1 hi2
    · rw [hp'.2.1 i (by omega)]; exact least i hi1 (by omega)
    · exact permIn_all d4 d' mid b' (fun x => ltInt d4[a']! x = true) (by omega) hp' (fun j hj1 hj2 => hq.right j hj1 hj2) i hi1 hi2

/-- The left part is sorted by the call; what is left is the right part. -/
theorem St.left {d dk d4 d5 : Array Int} {a b a' b' mid : Nat} (h : St d a b a' b' dk) (hq : Parted dk a' b' mid d4) (hp5 : PermIn a' mid d4 d5) (hs5 : SortedIn ltInt a' mid d5) : St d a b (mid + 1) b' d5 := by
  have h1 := h.hb
  have h2 := h.size
  have h3 := h.bb
  have h4 := h.aa
  have l1 := hq.lo
  have l2 := hq.hi
  have sz := hq.size
  have hT := (h.to hq.perm).to (permIn_mono d4 d5 a' mid a' b' (Nat.le_refl _) (by omega) (by omega) hp5)
  have em : d5[mid]! = d4[mid]! := hp5.2.1 mid (by omega)
  have hr : ∀ i, mid < i → i < b' → ltInt d5[i]! d5[mid]! = false := fun i hi1 hi2 => by
    rw [em, hp5.2.1 i (by omega)]; exact hq.right i hi1 hi2
  have hlf : ∀ i, a' ≤ i → i < mid → ltInt d5[i]! d5[mid]! = true := by
    rw [em]
    exact permIn_all d4 d5 a' mid (fun x => ltInt x d4[mid]! = true) (by omega) hp5 (fun j hj1 hj2 => hq.left j hj1 hj2)
  refine ⟨hT.size, hT.perm, by omega, by omega, h3, h1, .inr fun i hi1 hi2 => hr i (by omega) hi2, ?_⟩
  intro d' hp' hs'
  have sz5 := hp5.1
  refine hT.fin d' (permIn_mono d5 d' (mid + 1) b' a' b' (by omega) (Nat.le_refl _) (by omega) hp') ?_
  have em' : d'[mid]! = d5[mid]! := hp'.2.1 mid (by omega)
  refine Sort.sorted_glue (mid := mid) swo_ltInt (Sort.SortedIn.congr hs5 (fun i _ hi => hp'.2.1 i (by omega))) hs' (fun i hi1 hi2 => ?_) (fun i hi1 hi2 => ?_)
  · rw [em', hp'.2.1 i (by omega)]; exact hlf i hi1 hi2
  · rw [em']
    exact permIn_all d5 d' (mid + 1) b' (fun x => ltInt x d5[mid]! = false) (by omega) hp' (fun j hj1 hj2 => hr j (by omega) hj2) i (by omega) hi2

/-- The right part is sorted by the call; what is left is the left part. -/
theorem St.right {d dk d4 d5 : Array Int} {a b a' b' mid : Nat} (h : St d a b a' b' dk) (hq : Parted dk a' b' mid d4) (hp5 : PermIn (mid + 1) b' d4 d5) (hs5 : SortedIn ltInt (mid + 1) b' d5) : St d a b a' mid d5 := by
  have h1 := h.hb
  have h2 := h.size
  have h3 := h.bb
  have h4 := h.aa
  have l1 := hq.lo
  have l2 := hq.hi
  have sz := hq.size
  have sz5 := hp5.1
  have hT := (h.to hq.perm).to (permIn_mono d4 d5 (mid + 1) b' a' b' (by omega) (Nat.le_refl _) (by omega) hp5)
  have em : d5[mid]! = d4[mid]! := hp5.2.1 mid (by omega)
  have hlf : ∀ i, a' ≤ i → i < mid → ltInt d5[i]! d5[mid]! = true := fun i hi1 hi2 => by
    rw [em, hp5.2.1 i (by omega)]; exact hq.left i hi1 hi2
  have hr : ∀ i, mid < i → i < b' → ltInt d5[i]! d5[mid]! = false := by
    intro i hi1 hi2
    rw [em]
    exact permIn_all d4 d5 (mid + 1) b' (fun x => ltInt x d4[mid]! = false) (by omega) hp5 (fun j hj1 hj2 => hq.right j (by omega) hj2) i (by omega) hi2
  refine ⟨hT.size, hT.perm, h4, l1, by omega, h1, Sort.Below.mono hT.below (by omega), ?_⟩
  intro d' hp' hs'
  refine hT.fin d' (permIn_mono d5 d' a' mid a' b' (Nat.le_refl _) (by omega) (by omega) hp') ?_
  have em' : d'[mid]! = d5[mid]! := hp'.2.1 mid (by omega)
  refine Sort.sorted_glue (mid := mid) swo_ltInt hs' (Sort.SortedIn.congr hs5 (fun i hi _ => hp'.2.1 i (by omega))) (fun i hi1 hi2 => ?_) (fun i hi1 hi2 => ?_)
  · rw [em']
    exact permIn_all d5 d' a' mid (fun x => ltInt x d5[mid]! = true) (by omega) hp' (fun j hj1 hj2 => hlf j hj1 hj2) i hi1 hi2
  · rw [em', hp'.2.1 i (by omega)]; exact hr i hi1 hi2

theorem below_sub {dk d4 : Array Int} {a' b' mid : Nat} (hB : Sort.Below ltInt a' b' dk) (hb : b' ≤ dk.size) (hq : Parted dk a' b' mid d4) : Sort.Below ltInt a' mid d4 ∧ Sort.Below ltInt (mid + 1) b' d4 := by
  have l1 := hq.lo
  have l2 := hq.hi
  exact ⟨Sort.Below.mono (Sort.Below.perm hB hb hq.perm) (by omega), .inr fun i hi1 hi2 => hq.right i (by omega) hi2⟩
end Go.Proofs.YbulkeycDoor
