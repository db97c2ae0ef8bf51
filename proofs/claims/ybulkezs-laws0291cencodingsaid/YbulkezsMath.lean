namespace Go.Proofs.Ybulkezs
namespace M
/-- A run of bits as a number, the first bit the greatest. -/
def val (bs : List Bool) : Nat := bs.foldl (fun a b => 2 * a + b.toNat) 0

theorem foldl_val : ∀ (bs : List Bool) (a : Nat), bs.foldl (fun a b => 2 * a + b.toNat) a = a * 2 ^ bs.length + val bs
  | [], a => by simp [val]
  | b :: bs, a => by
    have h1 := foldl_val bs (2 * a + b.toNat)
    have h2 := foldl_val bs b.toNat
    simp only [val, List.foldl_cons, List.length_cons, Nat.mul_zero, Nat.zero_add] at *
    rw [h1, h2, Nat.pow_succ, Nat.add_mul]
    have : 2 * a * 2 ^ bs.length = a * (2 ^ bs.length * 2) := by rw [Nat.mul_comm 2 a, Nat.mul_assoc, Nat.mul_comm 2]
    omega

theorem val_append (a b : List Bool) : val (a ++ b) = val a * 2 ^ b.length + val b := by
  unfold val
  rw [List.foldl_append, foldl_val]
  rfl

theorem val_cons (b : Bool) (bs : List Bool) : val (b :: bs) = b.toNat * 2 ^ bs.length + val bs := by
  have := val_append [b] bs
  simpa [val] using this

theorem val_lt : ∀ bs : List Bool, val bs < 2 ^ bs.length
  | [] => by simp [val]
  | b :: bs => by
    have h := val_lt bs
    rw [val_cons, List.length_cons, Nat.pow_succ]
    cases b <;> simp <;> omega

theorem val_falses : ∀ n : Nat, val (List.replicate n false) = 0
  | 0 => rfl
  | n + 1 => by rw [List.replicate_succ, val_cons, val_falses n]; simp

/-- Byte j of a run of bits; what lacks is 0. -/
def byteAt (bs : List Bool) (j : Nat) : Nat := val ((List.range 8).map fun k => bs.getD (8 * j + k) false)
/-- The bytes of a run of bits, the last filled up with 0 bits. -/
def pack (bs : List Bool) : List Nat := (List.range ((bs.length + 7) / 8)).map (byteAt bs)

theorem pack_length (bs : List Bool) : (pack bs).length = (bs.length + 7) / 8 := by simp [pack]
theorem byteAt_lt (bs : List Bool) (j : Nat) : byteAt bs j < 256 := by
  have := val_lt ((List.range 8).map fun k => bs.getD (8 * j + k) false)
  simpa [byteAt] using this
theorem pack_lt (bs : List Bool) : ∀ x ∈ pack bs, x < 256 := by
  intro x hx
  simp only [pack, List.mem_map] at hx
  obtain ⟨j, _, rfl⟩ := hx
  exact byteAt_lt bs j

theorem byteAt_congr (a b : List Bool) (i j : Nat) (h : ∀ k, k < 8 → a.getD (8 * i + k) false = b.getD (8 * j + k) false) : byteAt a i = byteAt b j := by
  unfold byteAt
  congr 1
  apply List.map_congr_left
  intro k hk
  exact h k (by simpa using hk)

theorem pack_append (a b : List Bool) (h : a.length % 8 = 0) : pack (a ++ b) = pack a ++ pack b := by
  apply List.ext_getElem
  · simp only [pack_length, List.length_append]; omega
  · intro i h1 h2
    simp only [pack_length, List.length_append] at h1 h2
    by_cases hi : i < (pack a).length
    · rw [List.getElem_append_left hi]
      simp only [pack, List.getElem_map, List.getElem_range]
      rw [pack_length] at hi
      apply byteAt_congr
      intro k hk
      simp only [List.getD]
      rw [List.getElem?_append_left (by omega)]
    · rw [List.getElem_append_right (by omega)]
      simp only [pack, List.getElem_map, List.getElem_range, List.length_map, List.length_range]
      rw [pack_length] at hi
      apply byteAt_congr
      intro k hk
      simp only [List.getD]
      rw [List.getElem?_append_right (by omega)]
      congr 2
      omega

/-- Eight bytes of a word are the bytes of its 64 bits. -/
theorem val_byte (cs : List Bool) (h : cs.length = 64) (j : Nat) (hj : j < 8) : val cs / 2 ^ (56 - 8 * j) % 256 = byteAt cs j := by
  have e : cs = cs.take (8 * j) ++ ((cs.drop (8 * j)).take 8 ++ cs.drop (8 * j + 8)) := by
    rw [← List.drop_drop, List.take_append_drop, List.take_append_drop]
  have l1 : ((cs.drop (8 * j)).take 8).length = 8 := by simp [h]; omega
  have l2 : (cs.drop (8 * j + 8)).length = 56 - 8 * j := by rw [List.length_drop, h]; omega
  have hb : val ((cs.drop (8 * j)).take 8) = byteAt cs j := by
    unfold byteAt
    congr 1
    apply List.ext_getElem
    · simp [l1]
    · intro i h1 h2
      simp only [List.length_map, List.length_range] at h2
      simp only [List.getElem_take, List.getElem_drop, List.getElem_map, List.getElem_range, List.getD]
      rw [List.getElem?_eq_getElem (by omega)]
      rfl
  have hlt := val_lt (cs.drop (8 * j + 8))
  have hlt8 := byteAt_lt cs j
  rw [l2] at hlt
  have hv : val cs = (val (cs.take (8 * j)) * 256 + byteAt cs j) * 2 ^ (56 - 8 * j) + val (cs.drop (8 * j + 8)) := by
    calc val cs = val (cs.take (8 * j) ++ ((cs.drop (8 * j)).take 8 ++ cs.drop (8 * j + 8))) := by rw [← e]
      _ = _ := by
        rw [val_append, val_append, List.length_append, l1, l2, hb, Nat.pow_add, Nat.add_mul, Nat.mul_assoc, show (2 : Nat) ^ 8 = 256 from rfl, Nat.add_assoc]
  rw [hv, Nat.mul_comm, Nat.mul_add_div (Nat.two_pow_pos _), Nat.div_eq_of_lt hlt, Nat.add_zero]
  omega

/-! ### The bit writer's state -/
/-- The bytes xs and the last n bits of acc are the prefix 'pre' and the bits bs. -/
def Rep (pre : List Nat) (bs : List Bool) (xs : List Nat) (acc n : Nat) : Prop :=
  n ≤ 64 ∧ acc < 2 ^ 64 ∧ ∃ hd tl, bs = hd ++ tl ∧ hd.length % 64 = 0 ∧ tl.length = n ∧ xs = pre ++ pack hd ∧ acc % 2 ^ n = val tl

theorem rep_start (pre : List Nat) : Rep pre [] pre 0 0 := ⟨by omega, by decide, [], [], rfl, rfl, rfl, by simp [pack], by simp [val]⟩

theorem mod_shl (acc v n m : Nat) (hm : n + m ≤ 64) (hv : v < 2 ^ m) : (acc * 2 ^ m % 2 ^ 64 + v) % 2 ^ (n + m) = acc % 2 ^ n * 2 ^ m + v := by
  have e64 : (2 : Nat) ^ 64 = 2 ^ (n + m) * 2 ^ (64 - (n + m)) := by rw [← Nat.pow_add]; congr 1; omega
  have h1 : acc * 2 ^ m % 2 ^ 64 % 2 ^ (n + m) = acc * 2 ^ m % 2 ^ (n + m) := Nat.mod_mod_of_dvd _ ⟨_, e64⟩
  have h2 : acc * 2 ^ m % 2 ^ (n + m) = acc % 2 ^ n * 2 ^ m := by rw [Nat.pow_add, Nat.mul_mod_mul_right]
  have hlt : acc % 2 ^ n * 2 ^ m + v < 2 ^ (n + m) := by
    have h3 : acc % 2 ^ n < 2 ^ n := Nat.mod_lt _ (Nat.two_pow_pos n)
    have h4 : (acc % 2 ^ n + 1) * 2 ^ m ≤ 2 ^ n * 2 ^ m := Nat.mul_le_mul_right _ h3
    rw [Nat.pow_add]
    rw [Nat.add_mul, Nat.one_mul] at h4
    omega
  rw [Nat.add_mod, h1, h2, Nat.add_mod_mod, Nat.mod_eq_of_lt]
  · exact hlt

/-- 'acc<<m | v', n + m bits. -/
theorem rep_write {pre : List Nat} {bs : List Bool} {xs : List Nat} {acc n : Nat} (h : Rep pre bs xs acc n) (vb : List Bool) (hm : n + vb.length ≤ 64) : Rep pre (bs ++ vb) xs (acc * 2 ^ vb.length % 2 ^ 64 + val vb) (n + vb.length) := by
  obtain ⟨hn, ha, hd, tl, rfl, h64, htl, hxs, hac⟩ := h
  have hv := val_lt vb
  have hlt : acc * 2 ^ vb.length % 2 ^ 64 + val vb < 2 ^ 64 := by
    have e64 : (2 : Nat) ^ 64 = 2 ^ (64 - vb.length) * 2 ^ vb.length := by rw [← Nat.pow_add]; congr 1; omega
    have h2 : acc * 2 ^ vb.length % 2 ^ 64 = acc % 2 ^ (64 - vb.length) * 2 ^ vb.length := by rw [e64, Nat.mul_mod_mul_right]
    have h3 : acc % 2 ^ (64 - vb.length) < 2 ^ (64 - vb.length) := Nat.mod_lt _ (Nat.two_pow_pos _)
    have h4 : (acc % 2 ^ (64 - vb.length) + 1) * 2 ^ vb.length ≤ 2 ^ (64 - vb.length) * 2 ^ vb.length := Nat.mul_le_mul_right _ h3
    rw [Nat.add_mul, Nat.one_mul] at h4
    rw [h2]
    omega
  refine ⟨hm, hlt, hd, tl ++ vb, by rw [List.append_assoc], h64, by simp [htl], hxs, ?_⟩
  rw [mod_shl acc (val vb) n vb.length hm hv, hac, val_append]

/-- The spill: 64 bits go out. -/
theorem rep_spill {pre : List Nat} {bs : List Bool} {xs : List Nat} {acc n : Nat} (h : Rep pre bs xs acc n) (vb : List Bool) (hm : 64 < n + vb.length) (hv64 : vb.length ≤ 64) :
    ∃ cs : List Bool, cs.length = 64 ∧ val cs = acc * 2 ^ (64 - n) % 2 ^ 64 + val vb / 2 ^ (vb.length - (64 - n)) ∧ Rep pre (bs ++ vb) (xs ++ pack cs) (val vb) (vb.length - (64 - n)) := by
  obtain ⟨hn, ha, hd, tl, rfl, h64, htl, hxs, hac⟩ := h
  have hsplit : vb = vb.take (64 - n) ++ vb.drop (64 - n) := (List.take_append_drop _ _).symm
  have l1 : (vb.take (64 - n)).length = 64 - n := by simp; omega
  have l2 : (vb.drop (64 - n)).length = vb.length - (64 - n) := by simp
  have hvv : val vb = val (vb.take (64 - n)) * 2 ^ (vb.length - (64 - n)) + val (vb.drop (64 - n)) := by
    calc val vb = val (vb.take (64 - n) ++ vb.drop (64 - n)) := by rw [← hsplit]
      _ = _ := by rw [val_append, l2]
  have hlow := val_lt (vb.drop (64 - n))
  rw [l2] at hlow
  have hdiv : val vb / 2 ^ (vb.length - (64 - n)) = val (vb.take (64 - n)) := by
    rw [hvv, Nat.mul_comm, Nat.mul_add_div (Nat.two_pow_pos _), Nat.div_eq_of_lt hlow, Nat.add_zero]
  have hmod : val vb % 2 ^ (vb.length - (64 - n)) = val (vb.drop (64 - n)) := by
    rw [hvv, Nat.mul_comm, Nat.mul_add_mod, Nat.mod_eq_of_lt hlow]
  have e64 : (2 : Nat) ^ 64 = 2 ^ n * 2 ^ (64 - n) := by rw [← Nat.pow_add]; congr 1; omega
  refine ⟨tl ++ vb.take (64 - n), by simp [htl]; omega, ?_, by omega, Nat.lt_of_lt_of_le (val_lt vb) (Nat.pow_le_pow_right (by decide) hv64), hd ++ (tl ++ vb.take (64 - n)), vb.drop (64 - n), ?_, ?_, l2, ?_, hmod⟩
  · rw [val_append, l1, hdiv, e64, Nat.mul_mod_mul_right, hac]
  · simp only [List.append_assoc, List.take_append_drop]
  · simp only [List.length_append, htl, l1]; omega
  · rw [pack_append hd _ (by omega), ← List.append_assoc, hxs]

/-- The end: the bits that wait, filled up. -/
theorem rep_end {pre : List Nat} {bs : List Bool} {xs : List Nat} {acc n : Nat} (h : Rep pre bs xs acc n) :
    ∃ cs : List Bool, cs.length = 64 ∧ val cs = acc * 2 ^ (64 - n) % 2 ^ 64 ∧ (xs ++ pack cs).take (xs.length + (n + 7) / 8) = pre ++ pack bs := by
  obtain ⟨hn, ha, hd, tl, rfl, h64, htl, hxs, hac⟩ := h
  have e64 : (2 : Nat) ^ 64 = 2 ^ n * 2 ^ (64 - n) := by rw [← Nat.pow_add]; congr 1; omega
  refine ⟨tl ++ List.replicate (64 - n) false, by simp [htl]; omega, ?_, ?_⟩
  · rw [val_append, val_falses, e64, Nat.mul_mod_mul_right, hac]; simp
  · rw [pack_append hd tl (by omega), ← List.append_assoc, ← hxs, List.take_append]
    have e1 : xs.take (xs.length + (n + 7) / 8) = xs := List.take_of_length_le (by omega)
    rw [e1, show xs.length + (n + 7) / 8 - xs.length = (n + 7) / 8 by omega]
    congr 1
    apply List.ext_getElem
    · simp only [List.length_take, pack_length, List.length_append, List.length_replicate, htl]; omega
    · intro i h1 h2
      simp only [pack_length, htl] at h2
      simp only [List.getElem_take, pack, List.getElem_map, List.getElem_range]
      apply byteAt_congr
      intro k hk
      simp only [List.getD]
      by_cases hik : 8 * i + k < tl.length
      · rw [List.getElem?_append_left hik]
      · rw [List.getElem?_append_right (by omega), List.getElem?_eq_none (l := tl) (by omega)]
        simp only [List.getElem?_replicate]
        split <;> rfl

/-! ### The law's own loop: a bit a round -/
theorem pack_take_new (bs : List Bool) (k : Nat) (hk : k < bs.length) (h0 : k % 8 = 0) : pack (bs.take (k + 1)) = pack (bs.take k) ++ [if bs[k] then 128 else 0] := by
  have e : bs.take (k + 1) = bs.take k ++ [bs[k]] := List.take_succ_eq_append_getElem hk
  rw [e, pack_append _ _ (by simp; omega)]
  congr 1
  cases bs[k] <;> rfl

theorem pack_take_old (bs : List Bool) (k : Nat) (hk : k < bs.length) (h0 : k % 8 ≠ 0) :
    ∃ (ys : List Nat) (y : Nat), pack (bs.take k) = ys ++ [y] ∧ y < 256 ∧ y % 2 ^ (8 - k % 8) = 0 ∧ pack (bs.take (k + 1)) = ys ++ [y + if bs[k] then 2 ^ (7 - k % 8) else 0] := by
  have e : bs.take (k + 1) = bs.take k ++ [bs[k]] := List.take_succ_eq_append_getElem hk
  have s1 : bs.take k = bs.take (8 * (k / 8)) ++ (bs.drop (8 * (k / 8))).take (k % 8) := by
    have : k = 8 * (k / 8) + k % 8 := by omega
    conv => lhs; rw [this]
    rw [List.take_add]
  have lA : (bs.take (8 * (k / 8))).length = 8 * (k / 8) := by simp; omega
  have lB : ((bs.drop (8 * (k / 8))).take (k % 8)).length = k % 8 := by simp; omega
  rw [e, s1, List.append_assoc, pack_append _ _ (by omega), pack_append _ _ (by omega)]
  generalize (bs.drop (8 * (k / 8))).take (k % 8) = tl at lB
  generalize bs[k] = b
  have hr : k % 8 < 8 := by omega
  generalize k % 8 = r at *
  -- one byte of r bits, 0 < r < 8
  have one : ∀ t : List Bool, 0 < t.length → t.length ≤ 8 → pack t = [val (t ++ List.replicate (8 - t.length) false)] := by
    intro t h1 h2
    have : (t.length + 7) / 8 = 1 := by omega
    simp only [pack, this, List.range_one, List.map_cons, List.map_nil, List.cons.injEq, and_true]
    unfold byteAt
    congr 1
    apply List.ext_getElem
    · simp; omega
    · intro i h3 h4
      simp only [List.length_map, List.length_range] at h3
      simp only [List.getElem_map, List.getElem_range, Nat.mul_zero, Nat.zero_add, List.getD]
      rw [List.getElem_append]
      split
      · rw [List.getElem?_eq_getElem (by assumption)]; rfl
      · rw [List.getElem?_eq_none (by omega)]; simp
  refine ⟨pack (bs.take (8 * (k / 8))), val (tl ++ List.replicate (8 - tl.length) false), ?_, ?_, ?_, ?_⟩
  · rw [one tl (by omega) (by omega)]
  · have := val_lt (tl ++ List.replicate (8 - tl.length) false)
    rw [List.length_append, List.length_replicate, show tl.length + (8 - tl.length) = 8 by omega] at this
    exact this
  · rw [val_append, val_falses, List.length_replicate, lB, Nat.add_zero, Nat.mul_mod_left]
  · rw [one (tl ++ [b]) (by simp) (by simp; omega), val_append, val_append, val_append, val_falses, val_falses, List.length_append, List.length_replicate, List.length_replicate, List.length_singleton, lB]
    have p8 : 2 ^ (8 - r) = 2 * 2 ^ (7 - r) := by rw [show 8 - r = (7 - r) + 1 by omega, Nat.pow_succ, Nat.mul_comm]
    rw [show 8 - (r + 1) = 7 - r by omega, p8]
    have hb : val [b] = b.toNat := by simp [val]
    rw [hb]
    generalize val tl = V
    generalize 2 ^ (7 - r) = p
    cases b <;> simp [Nat.add_mul, Nat.mul_assoc]
end M
end Go.Proofs.Ybulkezs
