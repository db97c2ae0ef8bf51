import Derived.Test.YbulkeycDoorMath
/- The normal form: plain. A cell is a pair (s, u): the id 4^s (2 u + 1). -/
namespace Go.Proofs.YbulkeycDoor.N
set_option linter.unusedVariables false

abbrev C := Nat × Nat
def A (p : C) : Nat := 2 ^ (2 * p.1)
def idOf (p : C) : Nat := 2 ^ (2 * p.1) * (2 * p.2 + 1)
def lo (p : C) : Nat := A p * (2 * p.2) + 1
def hi (p : C) : Nat := A p * (2 * p.2 + 2) - 1
def Ok (p : C) : Prop := p.1 ≤ 30 ∧ A p * (2 * p.2 + 2) ≤ 6 * 2 ^ 61
theorem A_pos (p : C) : 0 < A p := Nat.two_pow_pos _
theorem id_lo (p : C) : idOf p = lo p + (A p - 1) := by
  have := A_pos p
  unfold idOf lo
  rw [Nat.mul_add, Nat.mul_one]
  show A p * (2 * p.2) + A p = _
  omega
theorem id_hi (p : C) : hi p = idOf p + (A p - 1) := by
  have := A_pos p
  have e : A p * (2 * p.2 + 2) = A p * (2 * p.2) + 2 * A p := by rw [Nat.mul_add]; omega
  have e2 : idOf p = A p * (2 * p.2) + A p := by unfold idOf; rw [Nat.mul_add, Nat.mul_one]; rfl
  unfold hi
  omega
theorem lo_le (p : C) : lo p ≤ idOf p := by rw [id_lo]; omega
theorem le_hi (p : C) : idOf p ≤ hi p := by rw [id_hi]; omega
theorem id_inj (p q : C) (h : idOf p = idOf q) : p = q := by
  have e : 2 * p.1 = 2 * q.1 := M.odd_unique _ _ _ _ h
  have e1 : p.1 = q.1 := by omega
  unfold idOf at h
  rw [e1] at h
  have h2 := Nat.eq_of_mul_eq_mul_left (Nat.two_pow_pos _) h
  exact Prod.ext e1 (by omega)

/-- Two cells of which the finer begins inside the other: it lies inside. -/
theorem scale (s t : Nat) (h : s ≤ t) : 2 ^ (2 * t) = 2 ^ (2 * s) * 4 ^ (t - s) := by
  rw [M.pow4, ← Nat.pow_add]; congr 1; omega
theorem apart (p q : C) (h : p.1 ≤ q.1) : A p * (2 * p.2 + 2) ≤ A q * (2 * q.2) ∨ A q * (2 * q.2 + 2) ≤ A p * (2 * p.2) ∨ (A q * (2 * q.2) ≤ A p * (2 * p.2) ∧ A p * (2 * p.2 + 2) ≤ A q * (2 * q.2 + 2)) := by
  have e : A q = A p * 4 ^ (q.1 - p.1) := scale p.1 q.1 h
  generalize 4 ^ (q.1 - p.1) = k at e
  rw [e]
  have f1 : A p * k * (2 * q.2) = A p * (2 * (k * q.2)) := by rw [Nat.mul_assoc]; congr 1; rw [Nat.mul_left_comm]
  have f2 : A p * k * (2 * q.2 + 2) = A p * (2 * (k * (q.2 + 1))) := by
    rw [Nat.mul_assoc]; congr 1
    have : 2 * q.2 + 2 = 2 * (q.2 + 1) := by omega
    rw [this, Nat.mul_left_comm]
  have f3 : 2 * p.2 + 2 = 2 * (p.2 + 1) := by omega
  rw [f1, f2, f3]
  rcases Nat.lt_or_ge p.2 (k * q.2) with h1 | h1
  · exact .inl (Nat.mul_le_mul_left _ (by omega))
  · rcases Nat.lt_or_ge p.2 (k * (q.2 + 1)) with h2 | h2
    · exact .inr (.inr ⟨Nat.mul_le_mul_left _ (by omega), Nat.mul_le_mul_left _ (by omega)⟩)
    · exact .inr (.inl (Nat.mul_le_mul_left _ (by omega)))
/-- A cell that begins ahead of c and reaches into it holds it. -/
theorem nest (c k : C) (h1 : lo k < lo c) (h2 : lo c ≤ hi k) : hi c ≤ hi k := by
  have a1 := A_pos c
  have a2 := A_pos k
  unfold lo hi at *
  have g1 : 0 < A k * (2 * k.2 + 2) := Nat.mul_pos a2 (by omega)
  have g2 : 0 < A c * (2 * c.2 + 2) := Nat.mul_pos a1 (by omega)
  rcases Nat.le_total c.1 k.1 with h | h
  · rcases apart c k h with h3 | h3 | h3
    · omega
    · omega
    · omega
  · rcases apart k c h with h3 | h3 | h3
    · omega
    · omega
    · omega

/-- Four cells in a row that are the children of one parent. -/
def Four (p q r t : C) : Prop := p.1 < 30 ∧ p.2 % 4 = 0 ∧ q = (p.1, p.2 + 1) ∧ r = (p.1, p.2 + 2) ∧ t = (p.1, p.2 + 3)

structure Norm (K : List C) : Prop where
  ok : ∀ p, p ∈ K → Ok p
  chain : ∀ i (h : i + 1 < K.length), hi K[i] < lo K[i + 1]
  nofour : ∀ i (h : i + 3 < K.length), ¬ Four K[i] K[i + 1] K[i + 2] K[i + 3]

theorem Norm.nil : Norm [] := ⟨fun p h => (by simp at h), fun i h => (by simp at h), fun i h => (by simp at h)⟩
theorem Norm.take {K : List C} (h : Norm K) (n : Nat) : Norm (K.take n) := by
  refine ⟨fun p hp => h.ok p (List.mem_of_mem_take hp), fun i hi => ?_, fun i hi => ?_⟩
  · have : i + 1 < K.length := by simp at hi; omega
    simpa using h.chain i this
  · have : i + 3 < K.length := by simp at hi; omega
    simpa using h.nofour i this
/-- A cell behind the last: still normal, unless it completes its parent. -/
theorem Norm.snoc {K : List C} (h : Norm K) (c : C) (hc : Ok c) (hl : ∀ (hp : 0 < K.length), hi (K[K.length - 1]) < lo c)
    (h4 : ∀ (h3 : 3 ≤ K.length), ¬ Four (K[K.length - 3]) (K[K.length - 2]) (K[K.length - 1]) c) : Norm (K ++ [c]) := by
  refine ⟨fun p hp => ?_, fun i hi => ?_, fun i hi => ?_⟩
  · rcases List.mem_append.1 hp with h1 | h1
    · exact h.ok p h1
    · simp at h1; rw [h1]; exact hc
  · simp only [List.length_append, List.length_singleton] at hi
    by_cases e : i + 1 < K.length
    · rw [List.getElem_append_left (by omega), List.getElem_append_left e]
      exact h.chain i e
    · have e' : i = K.length - 1 := by omega
      have : 0 < K.length := by omega
      subst e'
      rw [List.getElem_append_left (by omega), List.getElem_append_right (by omega)]
      simpa using hl this
  · simp only [List.length_append, List.length_singleton] at hi
    by_cases e : i + 3 < K.length
    · rw [List.getElem_append_left (by omega), List.getElem_append_left (by omega), List.getElem_append_left (by omega), List.getElem_append_left e]
      exact h.nofour i e
    · have e' : i = K.length - 3 := by omega
      have h3 : 3 ≤ K.length := by omega
      subst e'
      have e1 : K.length - 3 + 1 = K.length - 2 := by omega
      have e2 : K.length - 3 + 2 = K.length - 1 := by omega
      have := h4 h3
      rw [List.getElem_append_left (by omega), List.getElem_append_left (by omega), List.getElem_append_left (by omega), List.getElem_append_right (by omega)]
      simpa [e1, e2] using this
end Go.Proofs.YbulkeycDoor.N
