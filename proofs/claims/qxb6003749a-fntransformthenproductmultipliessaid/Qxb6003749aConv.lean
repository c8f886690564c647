/-
  THE PLAIN LAWS OF THE PRODUCT: pieces, convolution, bounds. No Go in sight.
-/
import Derived.Test.Qxb6003749aNtt2
import Derived.Test.Qxb6003749aBits
namespace Go.Proofs.Qxb6003749a

/-- The j-th piece of w bits of X. -/
def pcs (X w j : Nat) : Nat := X / 2 ^ (j * w) % 2 ^ w

theorem pcs_le (X w j : Nat) : pcs X w j ≤ 2 ^ w - 1 := by
  have := Nat.mod_lt (X / 2 ^ (j * w)) (Nat.two_pow_pos w)
  unfold pcs
  omega

theorem pcs_zero {X w j bl : Nat} (h : X < 2 ^ bl) (hj : bl ≤ j * w) : pcs X w j = 0 := by
  unfold pcs
  rw [Nat.div_eq_of_lt (Nat.lt_of_lt_of_le h (Nat.pow_le_pow_right (by omega) hj)), Nat.zero_mod]

/-- The sum of the terms A i * B (k - i), i below s. -/
def cp (A B : Nat → Nat) : Nat → Nat → Nat
  | 0, _ => 0
  | s + 1, k => cp A B s k + if s ≤ k then A s * B (k - s) else 0

theorem cp_le_left (A B : Nat → Nat) (px M : Nat) (hA : ∀ i, px ≤ i → A i = 0) (hM : ∀ i j, A i * B j ≤ M) (s k : Nat) : cp A B s k ≤ min s px * M := by
  induction s with
  | zero => simp [cp]
  | succ s ih =>
    rw [cp]
    by_cases hs : px ≤ s
    · rw [hA s hs, Nat.zero_mul]
      have e : min (s + 1) px = min s px := by omega
      rw [e]
      split <;> omega
    · have e : min (s + 1) px = min s px + 1 := by omega
      rw [e, Nat.add_mul, Nat.one_mul]
      split
      · have := hM s (k - s); omega
      · omega

theorem cp_le_right (A B : Nat → Nat) (py M : Nat) (hB : ∀ j, py ≤ j → B j = 0) (hM : ∀ i j, A i * B j ≤ M) (s k : Nat) : cp A B s k ≤ (min s (k + 1) - (k + 1 - py)) * M := by
  induction s with
  | zero => simp [cp]
  | succ s ih =>
    rw [cp]
    by_cases hs : s ≤ k
    · rw [if_pos hs]
      by_cases hb : py ≤ k - s
      · rw [hB _ hb, Nat.mul_zero, Nat.add_zero]
        refine Nat.le_trans ih (Nat.mul_le_mul_right _ (by omega))
      · have e : min (s + 1) (k + 1) - (k + 1 - py) = min s (k + 1) - (k + 1 - py) + 1 := by omega
        rw [e, Nat.add_mul, Nat.one_mul]
        have := hM s (k - s)
        omega
    · rw [if_neg hs, Nat.add_zero]
      refine Nat.le_trans ih (Nat.mul_le_mul_right _ (by omega))

/-! ### The product of two polynomials -/
theorem psum_zero (s : Nat → Int) (x : Int) (n : Nat) (h : ∀ j, j < n → s j = 0) : psum s x n = 0 := by
  induction n with
  | zero => rfl
  | succ n ih => rw [psum, ih (fun j hj => h j (by omega)), h n (by omega), Int.zero_mul, Int.add_zero]
theorem psum_ext (s t : Nat → Int) (x : Int) (n : Nat) (h : ∀ j, j < n → s j = t j) : psum s x n = psum t x n := by
  induction n with
  | zero => rfl
  | succ n ih => rw [psum, psum, ih (fun j hj => h j (by omega)), h n (by omega)]
theorem psum_scale (c : Int) (s : Nat → Int) (x : Int) (n : Nat) : c * psum s x n = psum (fun j => c * s j) x n := by
  induction n with
  | zero => rw [psum, psum, Int.mul_zero]
  | succ n ih => rw [psum, psum, Int.mul_add, ih, Int.mul_assoc]

/-- Seen as integers. -/
def ints (A : Nat → Nat) (i : Nat) : Int := ((A i : Nat) : Int)

theorem psum_shift (A B : Nat → Nat) (y : Int) (s n : Nat) (hs : s < n) (hz : ∀ j, j < n → n ≤ s + j → A s * B j = 0) :
    ints A s * y ^ s * psum (ints B) y n = psum (fun k => ((if s ≤ k then A s * B (k - s) else 0 : Nat) : Int)) y n := by
  obtain ⟨d, rfl⟩ := Nat.exists_eq_add_of_le (show s ≤ n by omega)
  have e0 : psum (fun k => ((if s ≤ k then A s * B (k - s) else 0 : Nat) : Int)) y s = 0 := psum_zero _ y s (fun j hj => by rw [if_neg (by omega)]; rfl)
  rw [psum_split (fun k => ((if s ≤ k then A s * B (k - s) else 0 : Nat) : Int)) y s d, e0, Int.zero_add]
  have e1 : psum (fun j => ((if s ≤ s + j then A s * B (s + j - s) else 0 : Nat) : Int)) y d = psum (fun j => ints A s * ints B j) y d := by
    refine psum_ext _ _ _ _ fun j hj => ?_
    rw [if_pos (by omega), Nat.add_sub_cancel_left]
    unfold ints
    simp
  rw [e1, ← psum_scale]
  have e2 : ints A s * psum (ints B) y (s + d) = ints A s * psum (ints B) y d := by
    have h3 : psum (fun j => ints A s * ints B (d + j)) y s = 0 := by
      refine psum_zero _ _ _ fun j hj => ?_
      have h0 := hz (d + j) (by omega) (by omega)
      unfold ints
      rw [← Int.natCast_mul, h0]
      rfl
    have h4 : ints A s * (y ^ d * psum (fun j => ints B (d + j)) y s) = 0 := by
      rw [Int.mul_left_comm, psum_scale, h3, Int.mul_zero]
    rw [Nat.add_comm s d, psum_split (ints B) y d s, Int.mul_add, h4, Int.add_zero]
  calc ints A s * y ^ s * psum (ints B) y (s + d) = y ^ s * (ints A s * psum (ints B) y (s + d)) := by rw [Int.mul_comm (ints A s), Int.mul_assoc]
    _ = y ^ s * (ints A s * psum (ints B) y d) := by rw [e2]

theorem psum_cp (A B : Nat → Nat) (y : Int) (n : Nat) (hz : ∀ i j, i < n → j < n → n ≤ i + j → A i * B j = 0) (s : Nat) (hs : s ≤ n) :
    psum (ints A) y s * psum (ints B) y n = psum (ints (cp A B s)) y n := by
  induction s with
  | zero =>
    rw [psum, Int.zero_mul]
    exact (psum_zero _ _ _ (fun j hj => rfl)).symm
  | succ s ih =>
    rw [psum, Int.add_mul, ih (by omega), psum_shift A B y s n (by omega) (fun j hj h => hz s j (by omega) hj h), ← psum_add]
    refine psum_ext _ _ _ _ fun k hk => ?_
    unfold ints
    rw [cp, Int.natCast_add]

/-! ### The number -/
theorem csum_psum (w n : Nat) (c : Nat → Nat) (i : Nat) (hi : i ≤ n) : ((csum w n c i : Nat) : Int) = psum (ints c) ((2 : Int) ^ w) i := by
  induction i with
  | zero => rfl
  | succ i ih =>
    rw [csum, psum, Int.natCast_add, ih (by omega), if_pos (by omega)]
    congr 1
    unfold ints
    rw [Int.natCast_mul]
    congr 1
    rw [← Int.pow_mul, Nat.mul_comm w i]
    simp

theorem csum_pcs (w n X : Nat) (hX : X < 2 ^ (n * w)) : csum w n (pcs X w) n = X := by
  rw [csum_pieces w n X (pcs X w) (fun i hi => rfl) n (Nat.le_refl _), Nat.mod_eq_of_lt hX]

/-- The pieces' convolution adds up to the product. -/
theorem conv_sum (w n X Y : Nat) (hX : X < 2 ^ (n * w)) (hY : Y < 2 ^ (n * w)) (hz : ∀ i j, i < n → j < n → n ≤ i + j → pcs X w i * pcs Y w j = 0) : csum w n (cp (pcs X w) (pcs Y w) n) n = X * Y := by
  have h1 := csum_psum w n (cp (pcs X w) (pcs Y w) n) n (Nat.le_refl _)
  rw [← psum_cp _ _ _ n hz n (Nat.le_refl _), ← csum_psum w n (pcs X w) n (Nat.le_refl _), ← csum_psum w n (pcs Y w) n (Nat.le_refl _), csum_pcs w n X hX, csum_pcs w n Y hY] at h1
  exact_mod_cast h1

/-! ### No carry overflows -/
theorem carries (w n : Nat) (C : Nat → Nat) (hw1 : 1 ≤ w) (hw : w ≤ 63) (hC : ∀ i, i < n → C i + 2 ^ (64 - w) ≤ 2 ^ 64) (i : Nat) : carryAt w n C i < 2 ^ (64 - w) ∧ sumAt w n C i < 2 ^ 64 := by
  have hp : 2 ^ (64 - w) ≤ 2 ^ 63 := Nat.pow_le_pow_right (by omega) (by omega)
  have hsum : ∀ i, carryAt w n C i < 2 ^ (64 - w) → sumAt w n C i < 2 ^ 64 := by
    intro i h
    unfold sumAt
    split
    · next hi => have := hC i hi; omega
    · omega
  induction i with
  | zero =>
    have h0 : carryAt w n C 0 < 2 ^ (64 - w) := by
      unfold carryAt csum
      rw [Nat.zero_div]
      exact Nat.two_pow_pos _
    exact ⟨h0, hsum 0 h0⟩
  | succ i ih =>
    have h1 : carryAt w n C (i + 1) < 2 ^ (64 - w) := by
      rw [carryAt_succ]
      apply Nat.div_lt_of_lt_mul
      rw [← Nat.pow_add, show w + (64 - w) = 64 by omega]
      exact ih.2
    exact ⟨h1, hsum _ h1⟩

/-- The bound on a coefficient. -/
theorem coef_bounds : ∀ w, w < 32 → ∀ M, M < 12 → 1 ≤ w → 2 * w + M ≤ 64 → 2 ^ M * ((2 ^ w - 1) * (2 ^ w - 1)) + 2 ^ (64 - w) ≤ 2 ^ 64 ∧ 2 ^ M * ((2 ^ w - 1) * (2 ^ w - 1)) < 18446744069414584321 := by
  decide +kernel

/-! ### Normal length -/
/-- i is the length of the n words f without the zeros at their end. -/
def Norm (n : Nat) (f : Nat → Nat) (i : Nat) : Prop := i ≤ n ∧ (∀ j, i ≤ j → j < n → f j = 0) ∧ (i = 0 ∨ f (i - 1) ≠ 0)

theorem Norm.unique {n : Nat} {f g : Nat → Nat} {i j : Nat} (h : Norm n f i) (k : Norm n g j) (hfg : ∀ t, t < n → f t = g t) : i = j := by
  obtain ⟨h1, h2, h3⟩ := h
  obtain ⟨k1, k2, k3⟩ := k
  by_cases hc : i < j
  · rcases k3 with k3 | k3
    · omega
    · exact absurd (by rw [← hfg _ (by omega)]; exact h2 (j - 1) (by omega) (by omega)) k3
  · by_cases hd : j < i
    · rcases h3 with h3 | h3
      · omega
      · exact absurd (by rw [hfg _ (by omega)]; exact k2 (i - 1) (by omega) (by omega)) h3
    · omega

theorem num_norm {n : Nat} {f : Nat → Nat} {i : Nat} (h1 : i ≤ n) (h2 : ∀ j, i ≤ j → j < n → f j = 0) : num n f = num i f := by
  induction n with
  | zero => rw [show i = 0 by omega]
  | succ n ih =>
    by_cases hi : i = n + 1
    · rw [hi]
    · rw [num, h2 n (by omega) (by omega), Nat.mul_zero, Nat.zero_add]
      exact ih (by omega) (fun j h3 h4 => h2 j h3 (by omega))

end Go.Proofs.Qxb6003749a
