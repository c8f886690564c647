/-
  THE PLAIN LAWS OF split AND join: numbers, words and pieces. No Go in sight; nothing is imported.
-/
namespace Go.Proofs.Qxb6003749a

/-- The number whose words, the least first, are f 0 .. f (n - 1). -/
def num : Nat → (Nat → Nat) → Nat
  | 0, _ => 0
  | n + 1, f => 2 ^ (64 * n) * f n + num n f

theorem num_lt (n : Nat) (f : Nat → Nat) (h : ∀ j, j < n → f j < 2 ^ 64) : num n f < 2 ^ (64 * n) := by
  induction n with
  | zero => simp [num]
  | succ n ih =>
    have h1 := ih (fun j hj => h j (by omega))
    have h2 := h n (by omega)
    rw [num, show 64 * (n + 1) = 64 * n + 64 by omega, Nat.pow_add]
    calc 2 ^ (64 * n) * f n + num n f < 2 ^ (64 * n) * f n + 2 ^ (64 * n) := by omega
      _ = 2 ^ (64 * n) * (f n + 1) := by rw [Nat.mul_add, Nat.mul_one]
      _ ≤ 2 ^ (64 * n) * 2 ^ 64 := Nat.mul_le_mul_left _ (by omega)

theorem num_bit (n : Nat) (f : Nat → Nat) (h : ∀ j, j < n → f j < 2 ^ 64) (p : Nat) : (num n f).testBit p = (decide (p / 64 < n) && (f (p / 64)).testBit (p % 64)) := by
  induction n with
  | zero => simp [num]
  | succ n ih =>
    rw [num, Nat.testBit_two_pow_mul_add _ (num_lt n f (fun j hj => h j (by omega)))]
    split
    · next hp =>
      rw [ih (fun j hj => h j (by omega))]
      have e1 : p / 64 < n := by omega
      simp [e1, show p / 64 < n + 1 by omega]
    · next hp =>
      by_cases e : p / 64 = n
      · rw [e]
        have : p - 64 * n = p % 64 := by omega
        simp [this]
      · have e1 : ¬ p / 64 < n + 1 := by omega
        have e2 : (f n).testBit (p - 64 * n) = false := by
          apply Nat.testBit_lt_two_pow
          exact Nat.lt_of_lt_of_le (h n (by omega)) (Nat.pow_le_pow_right (by omega) (by omega))
        simp [e1, e2]

theorem num_congr (n : Nat) (f g : Nat → Nat) (h : ∀ j, j < n → f j = g j) : num n f = num n g := by
  induction n with
  | zero => rfl
  | succ n ih => rw [num, num, h n (by omega), ih (fun j hj => h j (by omega))]

/-- A number's words. -/
theorem num_word (n : Nat) (f : Nat → Nat) (h : ∀ j, j < n → f j < 2 ^ 64) (j : Nat) (hj : j < n) : num n f / 2 ^ (64 * j) % 2 ^ 64 = f j := by
  apply Nat.eq_of_testBit_eq
  intro t
  rw [Nat.testBit_mod_two_pow, Nat.testBit_div_two_pow, num_bit n f h]
  by_cases ht : t < 64
  · have e1 : (t + 64 * j) / 64 = j := by omega
    have e2 : (t + 64 * j) % 64 = t := by omega
    simp [e1, e2, ht, hj]
  · have : (f j).testBit t = false := Nat.testBit_lt_two_pow (Nat.lt_of_lt_of_le (h j hj) (Nat.pow_le_pow_right (by omega) (by omega)))
    simp [ht, this]

/-- The i-th piece of w bits as 'split' reckons it: out of one word, or of two. -/
def piece1 (f : Nat → Nat) (w i : Nat) : Nat := (f (i * w / 64) / 2 ^ (i * w % 64)) % 2 ^ w
def piece2 (f : Nat → Nat) (w i : Nat) : Nat := (f (i * w / 64) / 2 ^ (i * w % 64) ||| (f (i * w / 64 + 1) * 2 ^ (64 - i * w % 64)) % 2 ^ 64) % 2 ^ w

/-- The i-th piece. -/
def piece (n : Nat) (f : Nat → Nat) (w i : Nat) : Nat := num n f / 2 ^ (i * w) % 2 ^ w

theorem piece1_eq (n : Nat) (f : Nat → Nat) (h : ∀ j, j < n → f j < 2 ^ 64) (w i : Nat) (_hw : w ≤ 63) (hi : i * w / 64 < n) (hc : ¬ (64 < i * w % 64 + w ∧ i * w / 64 + 1 < n)) : piece1 f w i = piece n f w i := by
  unfold piece1 piece
  apply Nat.eq_of_testBit_eq
  intro t
  rw [Nat.testBit_mod_two_pow, Nat.testBit_mod_two_pow, Nat.testBit_div_two_pow, Nat.testBit_div_two_pow, num_bit n f h]
  by_cases ht : t < w
  · by_cases h1 : t + i * w % 64 < 64
    · have e1 : (t + i * w) / 64 = i * w / 64 := by omega
      have e2 : (t + i * w) % 64 = t + i * w % 64 := by omega
      simp [e1, e2, ht, hi]
    · have e1 : (t + i * w) / 64 = i * w / 64 + 1 := by omega
      have e2 : ¬ i * w / 64 + 1 < n := by omega
      have e3 : (f (i * w / 64)).testBit (t + i * w % 64) = false := Nat.testBit_lt_two_pow (Nat.lt_of_lt_of_le (h _ hi) (Nat.pow_le_pow_right (by omega) (by omega)))
      simp [e1, e2, e3]
  · simp [ht]

theorem piece2_eq (n : Nat) (f : Nat → Nat) (h : ∀ j, j < n → f j < 2 ^ 64) (w i : Nat) (hw : w ≤ 63) (hi : i * w / 64 < n) (_hc1 : 64 < i * w % 64 + w) (hc2 : i * w / 64 + 1 < n) : piece2 f w i = piece n f w i := by
  unfold piece2 piece
  apply Nat.eq_of_testBit_eq
  intro t
  rw [Nat.testBit_mod_two_pow, Nat.testBit_mod_two_pow, Nat.testBit_or, Nat.testBit_div_two_pow, Nat.testBit_div_two_pow, Nat.testBit_mod_two_pow, Nat.testBit_mul_two_pow, num_bit n f h]
  by_cases ht : t < w
  · by_cases h1 : t + i * w % 64 < 64
    · have e1 : (t + i * w) / 64 = i * w / 64 := by omega
      have e2 : (t + i * w) % 64 = t + i * w % 64 := by omega
      have e3 : ¬ 64 - i * w % 64 ≤ t := by omega
      simp [e1, e2, e3, ht, hi]
    · have e1 : (t + i * w) / 64 = i * w / 64 + 1 := by omega
      have e2 : (t + i * w) % 64 = t - (64 - i * w % 64) := by omega
      have e3 : (f (i * w / 64)).testBit (t + i * w % 64) = false := Nat.testBit_lt_two_pow (Nat.lt_of_lt_of_le (h _ hi) (Nat.pow_le_pow_right (by omega) (by omega)))
      have e4 : 64 - i * w % 64 ≤ t := by omega
      have e5 : t < 64 := by omega
      simp [e1, e2, e3, e4, e5, hc2]
  · simp [ht]

/-! ### join -/

/-- What the first i coefficients sum to. -/
def csum (w nc : Nat) (c : Nat → Nat) : Nat → Nat
  | 0 => 0
  | i + 1 => csum w nc c i + (if i < nc then c i else 0) * 2 ^ (i * w)

/-- The carry ahead of round i, the sum in round i. -/
def carryAt (w nc : Nat) (c : Nat → Nat) (i : Nat) : Nat := csum w nc c i / 2 ^ (i * w)
def sumAt (w nc : Nat) (c : Nat → Nat) (i : Nat) : Nat := carryAt w nc c i + (if i < nc then c i else 0)

/-- The j-th word ahead of round i. -/
def zAt (w nc : Nat) (c : Nat → Nat) (i j : Nat) : Nat := (csum w nc c i % 2 ^ (i * w)) / 2 ^ (64 * j) % 2 ^ 64

theorem sumAt_eq (w nc : Nat) (c : Nat → Nat) (i : Nat) : sumAt w nc c i = csum w nc c (i + 1) / 2 ^ (i * w) := by
  rw [sumAt, carryAt, csum, Nat.add_mul_div_right _ _ (Nat.two_pow_pos _)]

theorem carryAt_succ (w nc : Nat) (c : Nat → Nat) (i : Nat) : carryAt w nc c (i + 1) = sumAt w nc c i / 2 ^ w := by
  rw [sumAt_eq, carryAt, Nat.div_div_eq_div_mul, ← Nat.pow_add, Nat.succ_mul]

/-- The low part behind round i: the low part ahead of it, and the new piece above. -/
theorem low_succ (w nc : Nat) (c : Nat → Nat) (i : Nat) : csum w nc c (i + 1) % 2 ^ ((i + 1) * w) = 2 ^ (i * w) * (sumAt w nc c i % 2 ^ w) + csum w nc c i % 2 ^ (i * w) := by
  rw [Nat.succ_mul, Nat.pow_add, Nat.mod_mul, ← sumAt_eq, Nat.add_comm]
  congr 1
  rw [csum, Nat.add_mul_mod_self_right]

theorem zAt_bit (w nc : Nat) (c : Nat → Nat) (i j t : Nat) : (zAt w nc c i j).testBit t = (decide (t < 64) && (csum w nc c i % 2 ^ (i * w)).testBit (t + 64 * j)) := by
  rw [zAt, Nat.testBit_mod_two_pow, Nat.testBit_div_two_pow]

theorem low_bit (w nc : Nat) (c : Nat → Nat) (i p : Nat) : (csum w nc c (i + 1) % 2 ^ ((i + 1) * w)).testBit p = if p < i * w then (csum w nc c i % 2 ^ (i * w)).testBit p else (sumAt w nc c i % 2 ^ w).testBit (p - i * w) := by
  rw [low_succ, Nat.testBit_two_pow_mul_add _ (Nat.mod_lt _ (Nat.two_pow_pos _))]

theorem low_none (w nc : Nat) (c : Nat → Nat) (i p : Nat) (h : i * w ≤ p) : (csum w nc c i % 2 ^ (i * w)).testBit p = false :=
  Nat.testBit_lt_two_pow (Nat.lt_of_lt_of_le (Nat.mod_lt _ (Nat.two_pow_pos _)) (Nat.pow_le_pow_right (by omega) h))

/-- A word that the round does not touch. -/
theorem zAt_other (w nc : Nat) (c : Nat → Nat) (i j : Nat) (_hw : w ≤ 63) (h1 : j ≠ i * w / 64) (h2 : ¬ (64 < i * w % 64 + w ∧ j = i * w / 64 + 1)) : zAt w nc c (i + 1) j = zAt w nc c i j := by
  apply Nat.eq_of_testBit_eq
  intro t
  rw [zAt_bit, zAt_bit, low_bit]
  by_cases ht : t < 64
  · by_cases hp : t + 64 * j < i * w
    · simp [hp]
    · have e1 := low_none w nc c i (t + 64 * j) (by omega)
      have e2 : (sumAt w nc c i % 2 ^ w).testBit (t + 64 * j - i * w) = false := by
        rw [Nat.testBit_mod_two_pow]
        have : ¬ t + 64 * j - i * w < w := by omega
        simp [this]
      simp [hp, e1, e2]
  · simp [ht]

/-- The word in which the piece begins. -/
theorem zAt_same (w nc : Nat) (c : Nat → Nat) (i : Nat) : zAt w nc c (i + 1) (i * w / 64) = zAt w nc c i (i * w / 64) ||| (sumAt w nc c i % 2 ^ w) * 2 ^ (i * w % 64) % 2 ^ 64 := by
  apply Nat.eq_of_testBit_eq
  intro t
  rw [Nat.testBit_or, zAt_bit, zAt_bit, low_bit, Nat.testBit_mod_two_pow _ 64, Nat.testBit_mul_two_pow]
  by_cases ht : t < 64
  · by_cases hp : t + 64 * (i * w / 64) < i * w
    · have e1 : ¬ i * w % 64 ≤ t := by omega
      simp [hp, e1]
    · have e1 := low_none w nc c i (t + 64 * (i * w / 64)) (by omega)
      have e2 : t + 64 * (i * w / 64) - i * w = t - i * w % 64 := by omega
      have e3 : i * w % 64 ≤ t := by omega
      simp [hp, e1, e2, e3]
  · simp [ht]

/-- The word behind it, where the piece goes on. -/
theorem zAt_next (w nc : Nat) (c : Nat → Nat) (i : Nat) (hw : w ≤ 63) : zAt w nc c (i + 1) (i * w / 64 + 1) = zAt w nc c i (i * w / 64 + 1) ||| (sumAt w nc c i % 2 ^ w) / 2 ^ (64 - i * w % 64) := by
  apply Nat.eq_of_testBit_eq
  intro t
  rw [Nat.testBit_or, zAt_bit, zAt_bit, low_bit, Nat.testBit_div_two_pow]
  have hp : ¬ t + 64 * (i * w / 64 + 1) < i * w := by omega
  have e1 := low_none w nc c i (t + 64 * (i * w / 64 + 1)) (by omega)
  have e2 : t + 64 * (i * w / 64 + 1) - i * w = t + (64 - i * w % 64) := by omega
  by_cases ht : t < 64
  · simp [hp, e1, e2, ht]
  · have e3 : (sumAt w nc c i % 2 ^ w).testBit (t + (64 - i * w % 64)) = false := by
      rw [Nat.testBit_mod_two_pow]
      have : ¬ t + (64 - i * w % 64) < w := by omega
      simp [this]
    simp [ht, e3]

/-- The whole sum. -/
theorem csum_high (w nc : Nat) (c : Nat → Nat) (i d : Nat) : csum w nc c (i + d) % 2 ^ (i * w) = csum w nc c i % 2 ^ (i * w) := by
  induction d with
  | zero => rfl
  | succ d ih =>
    rw [← Nat.add_assoc, csum, Nat.add_mul, Nat.pow_add, Nat.mul_left_comm, Nat.add_mul_mod_self_left]
    exact ih

theorem csum_past (w nc : Nat) (c : Nat → Nat) (d : Nat) : csum w nc c (nc + d) = csum w nc c nc := by
  induction d with
  | zero => rfl
  | succ d ih =>
    rw [← Nat.add_assoc, csum, if_neg (by omega), Nat.zero_mul, Nat.add_zero, ih]

/-- Behind the last round (round i begins past the last of m words) the words are those of the whole sum. -/
theorem zAt_end (w nc : Nat) (c : Nat → Nat) (m i j : Nat) (hj : j < m) (hi : m ≤ i * w / 64) : zAt w nc c i j = csum w nc c nc / 2 ^ (64 * j) % 2 ^ 64 := by
  have h1 : csum w nc c i % 2 ^ (i * w) = csum w nc c nc % 2 ^ (i * w) := by
    by_cases h : i ≤ nc
    · obtain ⟨d, rfl⟩ := Nat.exists_eq_add_of_le h
      rw [← csum_high w (i + d) c i d]
    · obtain ⟨d, rfl⟩ := Nat.exists_eq_add_of_le (show nc ≤ i by omega)
      rw [csum_past]
  apply Nat.eq_of_testBit_eq
  intro t
  rw [zAt_bit, h1, Nat.testBit_mod_two_pow, Nat.testBit_mod_two_pow, Nat.testBit_div_two_pow]
  by_cases ht : t < 64
  · have : t + 64 * j < i * w := by omega
    simp [ht, this]
  · simp [ht]

/-! ### split, then join -/

/-- Pieces add up to the number. -/
theorem csum_pieces (w nc : Nat) (X : Nat) (c : Nat → Nat) (hc : ∀ i, i < nc → c i = X / 2 ^ (i * w) % 2 ^ w) (i : Nat) (hi : i ≤ nc) : csum w nc c i = X % 2 ^ (i * w) := by
  induction i with
  | zero => simp [csum, Nat.mod_one]
  | succ i ih =>
    rw [csum, ih (by omega), if_pos (by omega), hc i (by omega), Nat.succ_mul, Nat.pow_add, Nat.mod_mul, Nat.mul_comm (2 ^ (i * w))]

theorem carry_pieces (w nc : Nat) (X : Nat) (c : Nat → Nat) (hc : ∀ i, i < nc → c i = X / 2 ^ (i * w) % 2 ^ w) (i : Nat) (hi : i ≤ nc) : carryAt w nc c i = 0 := by
  rw [carryAt, csum_pieces w nc X c hc i hi]
  exact Nat.div_eq_of_lt (Nat.mod_lt _ (Nat.two_pow_pos _))

theorem piece_lt (n : Nat) (f : Nat → Nat) (w i : Nat) : piece n f w i < 2 ^ w := Nat.mod_lt _ (Nat.two_pow_pos _)

end Go.Proofs.Qxb6003749a
