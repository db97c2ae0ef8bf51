import Derived.Test.YbulkeycDoorNplain
/- The normal form: what a round of normalize does, plain. -/
namespace Go.Proofs.YbulkeycDoor.N
set_option linter.unusedVariables false

/-- Behind the pops the last cell kept lies wholly ahead of c. -/
theorem gap {K : List C} (hN : Norm K) (c : C) (hm : ∀ p, p ∈ K → lo p ≤ idOf c) (hnot : ∀ (h0 : 0 < K.length), ¬ (lo (K[K.length - 1]) ≤ lo c ∧ hi c ≤ hi (K[K.length - 1])))
    (k : Nat) (hk : k ≤ K.length) (hk0 : 0 < k) (hlt : lo (K[k - 1]) < lo c) : hi (K[k - 1]) < lo c := by
  rcases Nat.lt_or_ge (hi (K[k - 1])) (lo c) with h | h
  · exact h
  · exfalso
    have h1 := nest c (K[k - 1]) hlt h
    by_cases e : k = K.length
    · subst e
      exact hnot (by omega) ⟨by omega, h1⟩
    · have h2 := hN.chain (k - 1) (by omega)
      have e2 : k - 1 + 1 = k := by omega
      have h3 : lo (K[k - 1 + 1]) ≤ idOf c := hm _ (List.getElem_mem _)
      have h4 := le_hi c
      omega

def par (c : C) : C := (c.1 + 1, c.2 / 4)
def sib (c : C) (j : Nat) : C := (c.1, 4 * (c.2 / 4) + j)
theorem A_par (c : C) : A (par c) = 4 * A c := by
  show 2 ^ (2 * (c.1 + 1)) = 4 * 2 ^ (2 * c.1)
  have : 2 * (c.1 + 1) = 2 * c.1 + 2 := by omega
  rw [this, Nat.pow_add]
  omega
theorem par_ok {c : C} (h : Ok c) (hs : c.1 < 30) (h3 : c.2 % 4 = 3) : Ok (par c) := by
  refine ⟨by show c.1 + 1 ≤ 30; omega, ?_⟩
  rw [A_par]
  show 4 * A c * (2 * (c.2 / 4) + 2) ≤ _
  have e : 4 * A c * (2 * (c.2 / 4) + 2) = A c * (2 * c.2 + 2) := by
    rw [Nat.mul_comm 4, Nat.mul_assoc]; congr 1; omega
  rw [e]; exact h.2
theorem par_lo {c : C} : lo (par c) = lo (sib c 0) := by
  unfold lo
  rw [A_par]
  show 4 * A c * (2 * (c.2 / 4)) + 1 = A c * (2 * (4 * (c.2 / 4) + 0)) + 1
  rw [Nat.mul_comm 4, Nat.mul_assoc]; congr 2; omega
theorem sib_lo (c : C) (j : Nat) (h : j ≤ c.2 % 4) : lo (sib c j) ≤ lo c := by
  unfold lo
  show A c * (2 * (4 * (c.2 / 4) + j)) + 1 ≤ A c * (2 * c.2) + 1
  exact Nat.add_le_add_right (Nat.mul_le_mul_left _ (by omega)) _

/-- Four in a row whose last is c are c's siblings. -/
theorem four_sib {p q r c : C} (h : Four p q r c) : c.1 < 30 ∧ c = sib c 3 ∧ p = sib c 0 ∧ q = sib c 1 ∧ r = sib c 2 := by
  obtain ⟨h1, h2, h3, h4, h5⟩ := h
  subst h3 h4 h5
  unfold sib
  refine ⟨h1, ?_, ?_, ?_, ?_⟩
  · exact Prod.ext rfl (show p.2 + 3 = 4 * ((p.2 + 3) / 4) + 3 by omega)
  · exact Prod.ext rfl (show p.2 = 4 * ((p.2 + 3) / 4) + 0 by omega)
  · exact Prod.ext rfl (show p.2 + 1 = 4 * ((p.2 + 3) / 4) + 1 by omega)
  · exact Prod.ext rfl (show p.2 + 2 = 4 * ((p.2 + 3) / 4) + 2 by omega)

/-- The round stands with the first k of K kept, and the cell c to come. -/
structure Top (K : List C) (m : Nat) (k : Nat) (c : C) : Prop where
  norm : Norm K
  bound : ∀ p, p ∈ K → lo p ≤ m
  kle : k ≤ K.length
  ok : Ok c
  gap : ∀ (h0 : 0 < k), hi (K[k - 1]) < lo c
  low : lo c ≤ m

theorem Top.merge {K : List C} {m k : Nat} {c : C} (h : Top K m k c) (hk : 3 ≤ k) (hs : c.1 < 30) (e3 : c = sib c 3) (e0 : K[k - 3]'(by have := h.kle; omega) = sib c 0) : Top K m (k - 3) (par c) := by
  have h1 := h.kle
  have h3 : c.2 % 4 = 3 := by
    have : c.2 = 4 * (c.2 / 4) + 3 := congrArg Prod.snd e3
    omega
  refine ⟨h.norm, h.bound, by omega, par_ok h.ok hs h3, fun h0 => ?_, ?_⟩
  · have := h.norm.chain (k - 3 - 1) (by omega)
    have e : k - 3 - 1 + 1 = k - 3 := by omega
    rw [par_lo, ← e0]
    simpa [e] using this
  · rw [par_lo]
    exact Nat.le_trans (sib_lo c 0 (Nat.zero_le _)) h.low

theorem Top.done {K : List C} {m k : Nat} {c : C} (h : Top K m k c) (h4 : ∀ (h3 : 3 ≤ k), ¬ (c.1 < 30 ∧ c = sib c 3 ∧ K[k - 3]'(by have := h.kle; omega) = sib c 0 ∧ K[k - 2]'(by have := h.kle; omega) = sib c 1 ∧ K[k - 1]'(by have := h.kle; omega) = sib c 2)) :
    Norm (K.take k ++ [c]) ∧ ∀ p, p ∈ K.take k ++ [c] → lo p ≤ m := by
  have h1 := h.kle
  have hl : (K.take k).length = k := by simp; omega
  refine ⟨Norm.snoc (h.norm.take k) c h.ok (fun hp => ?_) (fun h3 hf => ?_), fun p hp => ?_⟩
  · have := h.gap (by omega)
    simpa [hl] using this
  · have := h4 (by omega)
    apply this
    have := four_sib hf
    simpa [hl] using this
  · rcases List.mem_append.1 hp with hp | hp
    · exact h.bound p (List.mem_of_mem_take hp)
    · simp at hp; rw [hp]; exact h.low
end Go.Proofs.YbulkeycDoor.N
