namespace Go.Proofs.Ybulkffc
namespace M
/-- A dotted name from 'fr', within 'en', ends at L (K: the kinds, 1 a name; D: a dot). -/
def Fits (K : Nat → Nat) (D : Nat → Bool) (fr en L : Nat) : Prop :=
  (L - fr) % 2 = 0 ∧ (∀ i, fr ≤ i → i < L → ((i - fr) % 2 = 0 → K i = 1) ∧ ((i - fr) % 2 = 1 → D i = true)) ∧ K L = 1 ∧ ¬ (L + 1 < en ∧ D (L + 1) = true)

/-- The first m pairs from 'fr' on are a name and a dot. -/
def Run (K : Nat → Nat) (D : Nat → Bool) (fr en m : Nat) : Prop := ∀ j, j < m → fr + 2 * j + 1 < en ∧ K (fr + 2 * j) = 1 ∧ D (fr + 2 * j + 1) = true

theorem run_zero (K : Nat → Nat) (D : Nat → Bool) (fr en : Nat) : Run K D fr en 0 := fun j hj => by omega
theorem run_succ {K : Nat → Nat} {D : Nat → Bool} {fr en m : Nat} (h : Run K D fr en m) (h1 : fr + 2 * m + 1 < en) (h2 : K (fr + 2 * m) = 1) (h3 : D (fr + 2 * m + 1) = true) : Run K D fr en (m + 1) := fun j hj => by
  by_cases e : j = m
  · subst e; exact ⟨h1, h2, h3⟩
  · exact h j (by omega)

theorem fits_of_run {K : Nat → Nat} {D : Nat → Bool} {fr en m : Nat} (h : Run K D fr en m) (hk : K (fr + 2 * m) = 1) (hs : ¬ (fr + 2 * m + 1 < en ∧ D (fr + 2 * m + 1) = true)) : Fits K D fr en (fr + 2 * m) := by
  refine ⟨by omega, fun i h1 h2 => ⟨fun he => ?_, fun ho => ?_⟩, hk, hs⟩
  · have := (h ((i - fr) / 2) (by omega)).2.1
    rw [show fr + 2 * ((i - fr) / 2) = i by omega] at this
    exact this
  · have := (h ((i - fr) / 2) (by omega)).2.2
    rw [show fr + 2 * ((i - fr) / 2) + 1 = i by omega] at this
    exact this

theorem none_of_run {K : Nat → Nat} {D : Nat → Bool} {fr en m : Nat} (h : Run K D fr en m) (hs : ¬ (fr + 2 * m + 1 < en ∧ K (fr + 2 * m) = 1 ∧ D (fr + 2 * m + 1) = true)) (hk : en ≤ fr + 2 * m ∨ K (fr + 2 * m) ≠ 1) :
    ∀ L, fr ≤ L → L < en → ¬ Fits K D fr en L := by
  intro L h1 h2 ⟨f1, f2, f3, f4⟩
  obtain ⟨l, rfl⟩ : ∃ l, L = fr + 2 * l := ⟨(L - fr) / 2, by omega⟩
  rcases Nat.lt_trichotomy l m with hl | hl | hl
  · exact f4 ⟨(h l hl).1, (h l hl).2.2⟩
  · subst hl
    rcases hk with hk | hk
    · omega
    · exact hk f3
  · have a1 := (f2 (fr + 2 * m) (by omega) (by omega)).1 (by omega)
    have a2 := (f2 (fr + 2 * m + 1) (by omega) (by omega)).2 (by omega)
    exact hs ⟨by omega, a1, a2⟩

/-- What has been looked through up to i fits so far. -/
def Upto (K : Nat → Nat) (D : Nat → Bool) (fr q : Nat) : Prop := ∀ i, fr ≤ i → i < q → ((i - fr) % 2 = 0 → K i = 1) ∧ ((i - fr) % 2 = 1 → D i = true)
theorem upto_start (K : Nat → Nat) (D : Nat → Bool) (fr : Nat) : Upto K D fr fr := fun i h1 h2 => by omega
theorem upto_even {K : Nat → Nat} {D : Nat → Bool} {fr q : Nat} (h : Upto K D fr q) (he : (q - fr) % 2 = 0) (hk : K q = 1) : Upto K D fr (q + 1) := fun i h1 h2 => by
  by_cases e : i = q
  · subst e; exact ⟨fun _ => hk, fun ho => by omega⟩
  · exact h i h1 (by omega)
theorem upto_odd {K : Nat → Nat} {D : Nat → Bool} {fr q : Nat} (h : Upto K D fr q) (ho : (q - fr) % 2 = 1) (hk : D q = true) : Upto K D fr (q + 1) := fun i h1 h2 => by
  by_cases e : i = q
  · subst e; exact ⟨fun he => by omega, fun _ => hk⟩
  · exact h i h1 (by omega)
end M
end Go.Proofs.Ybulkffc
