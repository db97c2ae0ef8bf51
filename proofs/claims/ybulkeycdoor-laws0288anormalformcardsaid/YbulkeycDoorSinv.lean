import Derived.Test.YbulkeycDoorSsift
/- The partitions' invariant: plain. -/
namespace Go.Proofs.YbulkeycDoor
open Go.Sort (PermIn swp)
set_option linter.unusedVariables false

structure Inv (P : Int → Int → Bool) (p : Nat) (d : Array Int) (a b i j : Nat) (dk : Array Int) : Prop where
  size : dk.size = d.size
  perm : PermIn a b d dk
  ai : a < i
  ij : i ≤ j + 1
  jb : j < b
  up : ∀ t, a < t → t < i → P dk[t]! dk[a]! = true
  down : ∀ t, j < t → t < b → P dk[t]! dk[a]! = false
  piv : dk[a]! = d[p]!

theorem Inv.start {P : Int → Int → Bool} {d : Array Int} {a b p : Nat} (hap : a ≤ p) (hpb : p < b) (hb : b ≤ d.size) : Inv P p d a b (a + 1) (b - 1) (swp d a p) :=
  ⟨Sort.size_swp _ _ _, Sort.swp_permIn d a b a p (Nat.le_refl _) (by omega) hap hpb hb, by omega, by omega, by omega, fun t h1 h2 => by omega, fun t h1 h2 => by omega, by
    by_cases e : a = p
    · subst e; rw [Sort.swp_right _ _ _ (by omega)]
    · exact Sort.swp_left _ _ _ (by omega) e⟩
theorem Inv.goUp {P : Int → Int → Bool} {p : Nat} {d dk : Array Int} {a b i j : Nat} (h : Inv P p d a b i j dk) (hij : i ≤ j) (hp : P dk[i]! dk[a]! = true) : Inv P p d a b (i + 1) j dk :=
  ⟨h.size, h.perm, by have := h.ai; omega, by omega, h.jb, fun t h1 h2 => by
    by_cases e : t = i
    · rw [e]; exact hp
    · exact h.up t h1 (by omega), h.down, h.piv⟩
theorem Inv.goDown {P : Int → Int → Bool} {p : Nat} {d dk : Array Int} {a b i j : Nat} (h : Inv P p d a b i j dk) (hij : i ≤ j) (hp : P dk[j]! dk[a]! = false) : Inv P p d a b i (j - 1) dk :=
  ⟨h.size, h.perm, h.ai, by omega, by have := h.jb; omega, h.up, fun t h1 h2 => by
    by_cases e : t = j
    · rw [e]; exact hp
    · exact h.down t (by omega) h2, h.piv⟩
theorem Inv.lt {P : Int → Int → Bool} {p : Nat} {d dk : Array Int} {a b i j : Nat} (h : Inv P p d a b i j dk) (hij : i ≤ j) (hi : P dk[i]! dk[a]! = false) (hj : P dk[j]! dk[a]! = true) : i < j := by
  rcases Nat.lt_or_ge i j with h1 | h1
  · exact h1
  · have : i = j := by omega
    rw [this, hj] at hi
    cases hi
theorem Inv.swap {P : Int → Int → Bool} {p : Nat} {d dk : Array Int} {a b i j : Nat} (h : Inv P p d a b i j dk) (hb : b ≤ d.size) (hij : i < j) (hi : P dk[i]! dk[a]! = false) (hj : P dk[j]! dk[a]! = true) : Inv P p d a b (i + 1) (j - 1) (swp dk i j) := by
  have h1 := h.ai
  have h2 := h.jb
  have h3 := h.size
  have ea : (swp dk i j)[a]! = dk[a]! := Sort.swp_other _ _ _ _ (by omega) (by omega)
  refine ⟨by rw [Sort.size_swp, h3], Sort.permIn_trans _ _ _ _ _ h.perm (Sort.swp_permIn dk a b i j (by omega) (by omega) (by omega) h2 (by omega)), by omega, by omega, by omega, fun t ht1 ht2 => ?_, fun t ht1 ht2 => ?_, by rw [ea]; exact h.piv⟩
  · rw [ea]
    by_cases e : t = i
    · rw [e, Sort.swp_left _ _ _ (by omega) (by omega)]; exact hj
    · rw [Sort.swp_other _ _ _ _ e (by omega)]; exact h.up t ht1 (by omega)
  · rw [ea]
    by_cases e : t = j
    · rw [e, Sort.swp_right _ _ _ (by omega)]; exact hi
    · rw [Sort.swp_other _ _ _ _ (by omega) e]; exact h.down t (by omega) ht2

/-- What partitionOrdered leaves. -/
structure Parted (d : Array Int) (a b mid : Nat) (d' : Array Int) : Prop where
  size : d'.size = d.size
  lo : a ≤ mid
  hi : mid < b
  perm : PermIn a b d d'
  left : ∀ t, a ≤ t → t < mid → Sort.ltInt d'[t]! d'[mid]! = true
  right : ∀ t, mid < t → t < b → Sort.ltInt d'[t]! d'[mid]! = false
theorem Inv.parted {p : Nat} {d dk : Array Int} {a b i j : Nat} (h : Inv Sort.ltInt p d a b i j dk) (hb : b ≤ d.size) (hij : j < i) : Parted d a b j (swp dk j a) := by
  have h1 := h.ai
  have h2 := h.jb
  have h3 := h.size
  have h4 := h.ij
  have em : (swp dk j a)[j]! = dk[a]! := by
    by_cases e : j = a
    · subst e
      rw [Sort.swp_right _ _ _ (by omega)]
    · exact Sort.swp_left _ _ _ (by omega) e
  refine ⟨by rw [Sort.size_swp, h3], by omega, h2, Sort.permIn_trans _ _ _ _ _ h.perm (Sort.swp_permIn dk a b j a (by omega) h2 (by omega) (by omega) (by omega)), fun t ht1 ht2 => ?_, fun t ht1 ht2 => ?_⟩
  · rw [em]
    by_cases e : t = a
    · subst e
      rw [Sort.swp_right _ _ _ (by omega)]; exact h.up j (by omega) (by omega)
    · rw [Sort.swp_other _ _ _ _ (by omega) e]; exact h.up t (by omega) (by omega)
  · rw [em, Sort.swp_other _ _ _ _ (by omega) (by omega)]; exact h.down t ht1 ht2

def eqP (x p : Int) : Bool := !Sort.ltInt p x
/-- What partitionEqualOrdered leaves. -/
structure PartedEq (p : Nat) (d : Array Int) (a b mid : Nat) (d' : Array Int) : Prop where
  size : d'.size = d.size
  lo : a < mid
  hi : mid ≤ b
  perm : PermIn a b d d'
  left : ∀ t, a ≤ t → t < mid → Sort.ltInt d'[a]! d'[t]! = false
  right : ∀ t, mid ≤ t → t < b → Sort.ltInt d'[a]! d'[t]! = true
  piv : d'[a]! = d[p]!
theorem Inv.partedEq {p : Nat} {d dk : Array Int} {a b i j : Nat} (h : Inv eqP p d a b i j dk) (hij : j < i) : PartedEq p d a b i dk := by
  have h1 := h.ai
  have h2 := h.jb
  have h4 := h.ij
  refine ⟨h.size, h1, by omega, h.perm, fun t ht1 ht2 => ?_, fun t ht1 ht2 => ?_, h.piv⟩
  · by_cases e : t = a
    · subst e
      simp [Sort.ltInt]
    · simpa [eqP] using h.up t (by omega) ht2
  · simpa [eqP] using h.down t (by omega) ht2
end Go.Proofs.YbulkeycDoor
