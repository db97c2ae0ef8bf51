namespace Go.Proofs.YbulkeycDoor
namespace M

/-- posToIJ. -/
def ijT (o p : Nat) : Nat := (([[0, 1, 3, 2], [0, 2, 3, 1], [3, 2, 0, 1], [3, 1, 0, 2]] : List (List Nat)).getD o []).getD p 0
/-- posToOrientation. -/
def orT (p : Nat) : Nat := ([1, 0, 0, 3] : List Nat).getD p 0

/-- The walk down the curve, n levels, the positions in base 4 in P (the last n digits are read, the highest first). -/
def desc : Nat → Nat → Nat → Nat × Nat × Nat
  | 0, o, _ => (0, 0, o)
  | n + 1, o, P => (2 * (desc n o (P / 4)).1 + ijT (desc n o (P / 4)).2.2 (P % 4) / 2, 2 * (desc n o (P / 4)).2.1 + ijT (desc n o (P / 4)).2.2 (P % 4) % 2, (desc n o (P / 4)).2.2 ^^^ orT (P % 4))

theorem ijT_lt (o p : Nat) (ho : o < 4) (hp : p < 4) : ijT o p < 4 := by
  have : ∀ o, o < 4 → ∀ p, p < 4 → ijT o p < 4 := by decide
  exact this o ho p hp
theorem orT_lt (o p : Nat) (ho : o < 4) (hp : p < 4) : o ^^^ orT p < 4 := by
  have : ∀ o, o < 4 → ∀ p, p < 4 → o ^^^ orT p < 4 := by decide
  exact this o ho p hp

theorem desc_lt : ∀ (n o P : Nat), o < 4 → (desc n o P).1 < 2 ^ n ∧ (desc n o P).2.1 < 2 ^ n ∧ (desc n o P).2.2 < 4
  | 0, o, P, h => by simp [desc, h]
  | n + 1, o, P, h => by
    obtain ⟨h1, h2, h3⟩ := desc_lt n o (P / 4) h
    have hb := ijT_lt _ (P % 4) h3 (by omega)
    refine ⟨?_, ?_, orT_lt _ _ h3 (by omega)⟩
    · simp only [desc]; rw [Nat.pow_succ]; omega
    · simp only [desc]; rw [Nat.pow_succ]; omega

theorem desc_split (o : Nat) (ho : o < 4) (a : Nat) : ∀ (b P : Nat), ∃ r t, r < 2 ^ b ∧ t < 2 ^ b ∧
    (desc (a + b) o P).1 = (desc a o (P / 4 ^ b)).1 * 2 ^ b + r ∧ (desc (a + b) o P).2.1 = (desc a o (P / 4 ^ b)).2.1 * 2 ^ b + t
  | 0, P => ⟨0, 0, by simp, by simp, by simp, by simp⟩
  | b + 1, P => by
    obtain ⟨r, t, hr, ht, h1, h2⟩ := desc_split o ho a b (P / 4)
    have h3 := (desc_lt (a + b) o (P / 4) ho).2.2
    have hb := ijT_lt _ (P % 4) h3 (by omega)
    have e : P / 4 / 4 ^ b = P / 4 ^ (b + 1) := by rw [Nat.div_div_eq_div_mul, Nat.pow_succ, Nat.mul_comm 4]
    rw [e] at h1 h2
    refine ⟨2 * r + ijT (desc (a + b) o (P / 4)).2.2 (P % 4) / 2, 2 * t + ijT (desc (a + b) o (P / 4)).2.2 (P % 4) % 2, ?_, ?_, ?_, ?_⟩
    · rw [Nat.pow_succ]; omega
    · rw [Nat.pow_succ]; omega
    · rw [← Nat.add_assoc]; simp only [desc]; rw [h1, show (2 : Nat) ^ (b + 1) = 2 ^ b * 2 from Nat.pow_succ .., ← Nat.mul_assoc]; omega
    · rw [← Nat.add_assoc]; simp only [desc]; rw [h2, show (2 : Nat) ^ (b + 1) = 2 ^ b * 2 from Nat.pow_succ .., ← Nat.mul_assoc]; omega

/-! ### Bits -/
theorem or_add (i a b : Nat) (h : b < 2 ^ i) : 2 ^ i * a ||| b = 2 ^ i * a + b := (Nat.two_pow_add_eq_or_of_lt h a).symm

theorem and_low (x n : Nat) : x &&& (2 ^ n - 1) = x % 2 ^ n := Nat.and_two_pow_sub_one_eq_mod ..

/-- x &^ (2^n - 1), 64 bits. -/
theorem andNot_low (x n : Nat) (hx : x < 2 ^ 64) (hn : n ≤ 64) : x &&& (2 ^ 64 - 1 - (2 ^ n - 1)) = x / 2 ^ n * 2 ^ n := by
  apply Nat.eq_of_testBit_eq
  intro i
  have hp : 0 < 2 ^ n := Nat.two_pow_pos n
  have hle : 2 ^ n ≤ 2 ^ 64 := Nat.pow_le_pow_right (by decide) hn
  have e : 2 ^ 64 - 1 - (2 ^ n - 1) = 2 ^ 64 - ((2 ^ n - 1) + 1) := by omega
  rw [e, Nat.testBit_and, Nat.testBit_two_pow_sub_succ (by omega), Nat.testBit_two_pow_sub_one, Nat.mul_comm, Nat.testBit_two_pow_mul, Nat.testBit_div_two_pow]
  by_cases h1 : i < 64
  · by_cases h2 : i < n
    · simp [h1, h2]; intro h; omega
    · have h2' : n ≤ i := by omega
      simp [h1, h2, h2', show i - n + n = i by omega]
  · have hb : x.testBit i = false := Nat.testBit_lt_two_pow (Nat.lt_of_lt_of_le hx (Nat.pow_le_pow_right (by decide) (by omega)))
    by_cases h2 : n ≤ i
    · simp [h1, h2, hb, show i - n + n = i by omega]
    · omega

/-- The id of the cell of face f, 30 - s levels deep, at position q along the curve. -/
def idq (f s q : Nat) : Nat := 2 ^ 61 * f + q * 2 ^ (2 * s + 1) + 2 ^ (2 * s)

theorem pow4 (n : Nat) : (4 : Nat) ^ n = 2 ^ (2 * n) := by rw [Nat.pow_mul]

theorem desc_face (f : Nat) : ∀ (n o q : Nat), desc n o (4 ^ n * f + q) = desc n o q
  | 0, _, _ => rfl
  | n + 1, o, q => by
    have e : 4 ^ (n + 1) * f = 4 * (4 ^ n * f) := by rw [Nat.pow_succ, Nat.mul_comm (4 ^ n) 4, Nat.mul_assoc]
    have e1 : (4 ^ (n + 1) * f + q) / 4 = 4 ^ n * f + q / 4 := by omega
    have e2 : (4 ^ (n + 1) * f + q) % 4 = q % 4 := by omega
    simp only [desc, e1, e2, desc_face f n o (q / 4)]

theorem pow61 (s : Nat) (hs : s ≤ 30) : 2 ^ 61 = 2 ^ (2 * s + 1) * 4 ^ (30 - s) := by
  rw [pow4, ← Nat.pow_add]; congr 1; omega

theorem q_lt (s q : Nat) (hs : s ≤ 30) (hq : q < 4 ^ (30 - s)) : q * 2 ^ (2 * s + 1) + 2 ^ (2 * s + 1) ≤ 2 ^ 61 := by
  rw [pow61 s hs, Nat.mul_comm q]
  have := Nat.mul_le_mul_left (2 ^ (2 * s + 1)) (show q + 1 ≤ 4 ^ (30 - s) from hq)
  rw [Nat.mul_add, Nat.mul_one] at this
  exact this

theorem p2s (s : Nat) : 2 ^ (2 * s + 1) = 2 * 2 ^ (2 * s) := by rw [Nat.pow_succ, Nat.mul_comm]

theorem idq_lt (f s q : Nat) (hf : f ≤ 5) (hs : s ≤ 30) (hq : q < 4 ^ (30 - s)) : idq f s q < 2 ^ 61 * (f + 1) ∧ idq f s q < 2 ^ 64 := by
  have h1 := q_lt s q hs hq
  have h2 := p2s s
  have h3 : 0 < 2 ^ (2 * s) := Nat.two_pow_pos _
  unfold idq
  constructor
  · omega
  · omega

theorem idq_face (f s q : Nat) (hf : f ≤ 5) (hs : s ≤ 30) (hq : q < 4 ^ (30 - s)) : idq f s q / 2 ^ 61 = f := by
  have h1 := (idq_lt f s q hf hs hq).1
  have h2 : 2 ^ 61 * f ≤ idq f s q := by unfold idq; exact Nat.le_trans (Nat.le_add_right _ _) (Nat.le_add_right _ _)
  omega

theorem idq_pos (f s q : Nat) (hs : s ≤ 30) : idq f s q / 2 ^ (2 * s + 1) = 4 ^ (30 - s) * f + q := by
  have h2 := p2s s
  have h3 : 0 < 2 ^ (2 * s) := Nat.two_pow_pos _
  have e : idq f s q = 2 ^ (2 * s + 1) * (4 ^ (30 - s) * f + q) + 2 ^ (2 * s) := by
    unfold idq
    rw [pow61 s hs, Nat.mul_add, Nat.mul_assoc, Nat.mul_comm q]
  rw [e, Nat.mul_add_div (by omega), Nat.div_eq_of_lt (by omega), Nat.add_zero]

theorem idq_odd (f s q : Nat) (hs : s ≤ 30) : idq f s q = 2 ^ (2 * s) * (2 * (4 ^ (30 - s) * f + q) + 1) := by
  unfold idq
  rw [pow61 s hs, p2s s]
  have h := Nat.mul_add (2 ^ (2 * s)) (2 * (4 ^ (30 - s) * f + q)) 1
  rw [h, Nat.mul_one, Nat.mul_left_comm (2 ^ (2 * s)) 2, Nat.mul_add, Nat.mul_add]
  rw [Nat.mul_assoc 2, Nat.mul_left_comm q 2, Nat.mul_comm q, Nat.mul_assoc 2, Nat.mul_assoc (2 ^ (2 * s))]

theorem odd_unique : ∀ (a b m n : Nat), 2 ^ a * (2 * m + 1) = 2 ^ b * (2 * n + 1) → a = b
  | 0, 0, _, _, _ => rfl
  | 0, b + 1, m, n, h => by rw [Nat.pow_succ, Nat.pow_zero, Nat.mul_comm (2 ^ b), Nat.mul_assoc] at h; omega
  | a + 1, 0, m, n, h => by rw [Nat.pow_succ, Nat.pow_zero, Nat.mul_comm (2 ^ a), Nat.mul_assoc] at h; omega
  | a + 1, b + 1, m, n, h => by
    rw [Nat.pow_succ, Nat.pow_succ, Nat.mul_comm (2 ^ a), Nat.mul_comm (2 ^ b), Nat.mul_assoc, Nat.mul_assoc] at h
    rw [odd_unique a b m n (by omega)]

/-- zzs0288bid's word. -/
theorem bid_eq (f s r : Nat) (hs : s ≤ 30) : (2 ^ 61 * f ||| (r &&& ((2 ^ 61 - 1) &&& (2 ^ 64 - 1 - (2 ^ (2 * s + 1) - 1))))) ||| 2 ^ (2 * s) = idq f s (r % 2 ^ 61 / 2 ^ (2 * s + 1)) := by
  have hp := p2s s
  have h3 : 0 < 2 ^ (2 * s) := Nat.two_pow_pos _
  rw [← Nat.and_assoc, and_low, andNot_low _ _ (by have := Nat.mod_lt r (show 0 < 2 ^ 61 by decide); omega) (by omega)]
  have hl : r % 2 ^ 61 / 2 ^ (2 * s + 1) * 2 ^ (2 * s + 1) < 2 ^ 61 := by
    have := Nat.div_mul_le_self (r % 2 ^ 61) (2 ^ (2 * s + 1))
    have := Nat.mod_lt r (show 0 < 2 ^ 61 by decide)
    omega
  rw [or_add _ _ _ hl]
  unfold idq
  generalize r % 2 ^ 61 / 2 ^ (2 * s + 1) = q
  have e : 2 ^ 61 * f + q * 2 ^ (2 * s + 1) = 2 ^ (2 * s + 1) * (4 ^ (30 - s) * f + q) := by
    rw [pow61 s hs, Nat.mul_add, Nat.mul_assoc, Nat.mul_comm q]
  rw [e, or_add _ _ _ (by omega)]

theorem bq_lt (s r : Nat) (hs : s ≤ 30) : r % 2 ^ 61 / 2 ^ (2 * s + 1) < 4 ^ (30 - s) := by
  rw [Nat.div_lt_iff_lt_mul (Nat.two_pow_pos _), Nat.mul_comm, ← pow61 s hs]
  exact Nat.mod_lt _ (by decide)

/-- The leaf's word. -/
theorem leaf_eq (f s q b : Nat) (hf : f ≤ 5) (hs : s ≤ 30) (hq : q < 4 ^ (30 - s)) :
    ((idq f s q &&& (2 ^ 64 - 1 - (2 ^ (2 * s + 1) - 1))) ||| ((b * 2 % 2 ^ 64) &&& (2 ^ (2 * s + 1) - 1))) ||| 1 = idq f 0 (q * 4 ^ s + b % 4 ^ s) := by
  have hp := p2s s
  have h3 : 0 < 2 ^ (2 * s) := Nat.two_pow_pos _
  rw [andNot_low _ _ (idq_lt f s q hf hs hq).2 (by omega), and_low, idq_pos f s q hs]
  have e1 : b * 2 % 2 ^ 64 % 2 ^ (2 * s + 1) = 2 * (b % 4 ^ s) := by
    rw [Nat.mod_mod_of_dvd _ (Nat.pow_dvd_pow 2 (by omega)), pow4, p2s, Nat.mul_comm b, Nat.mul_mod_mul_left]
  have hl : b % 4 ^ s < 2 ^ (2 * s) := by rw [pow4]; exact Nat.mod_lt _ h3
  rw [e1, Nat.mul_comm _ (2 ^ (2 * s + 1)), or_add _ _ _ (by omega)]
  generalize b % 4 ^ s = t at *
  have e2 : 2 ^ (2 * s + 1) * (4 ^ (30 - s) * f + q) + 2 * t = 2 ^ 1 * (2 ^ 60 * f + (q * 4 ^ s + t)) := by
    have e3 : 2 ^ (2 * s + 1) * (4 ^ (30 - s) * f) = 2 ^ 61 * f := by rw [← Nat.mul_assoc, ← pow61 s hs]
    rw [Nat.mul_add, e3, p2s, pow4, Nat.mul_comm q, Nat.mul_assoc]
    omega
  rw [e2, or_add _ _ _ (by decide)]
  unfold idq
  simp only [Nat.mul_zero, Nat.zero_add, Nat.pow_zero]
  omega

/-- The child's word. -/
theorem child_eq (f s q k : Nat) : idq f (s + 1) q - 2 ^ (2 * (s + 1)) + (2 * k + 1) * 2 ^ (2 * s) = idq f s (4 * q + k) := by
  unfold idq
  have h1 : 2 ^ (2 * (s + 1) + 1) = 8 * 2 ^ (2 * s) := by rw [show 2 * (s + 1) + 1 = 2 * s + 3 by omega, Nat.pow_add, Nat.mul_comm]
  have h2 : 2 ^ (2 * s + 1) = 2 * 2 ^ (2 * s) := p2s s
  rw [h1, h2, Nat.add_sub_cancel, Nat.add_mul, Nat.one_mul, Nat.add_mul, ← Nat.mul_assoc q, Nat.mul_comm q 8, Nat.mul_assoc 8, Nat.mul_assoc 4, Nat.mul_left_comm q 2, Nat.mul_left_comm k 2, Nat.mul_assoc 2]
  omega

theorem child_lt (s q k : Nat) (hs : s + 1 ≤ 30) (hq : q < 4 ^ (30 - (s + 1))) (hk : k < 4) : 4 * q + k < 4 ^ (30 - s) := by
  rw [show 30 - s = (30 - (s + 1)) + 1 by omega, Nat.pow_succ]; omega

theorem leaf_lt (s q t : Nat) (hs : s ≤ 30) (hq : q < 4 ^ (30 - s)) (ht : t < 4 ^ s) : q * 4 ^ s + t < 4 ^ 30 := by
  have e : (4 : Nat) ^ 30 = 4 ^ (30 - s) * 4 ^ s := by rw [← Nat.pow_add]; congr 1; omega
  have := Nat.mul_le_mul_right (4 ^ s) (show q + 1 ≤ 4 ^ (30 - s) from hq)
  rw [Nat.add_mul, Nat.one_mul] at this
  omega
end M
end Go.Proofs.YbulkeycDoor
