/-
  THE LAW FnTransformThenProductMultiplies: its plain part. No Go in sight.
-/
import Derived.Test.Qxb6003749aConv
namespace Go.Proofs.Qxb6003749a

/-- The product's coefficients. -/
def coef (X Y wd n k : Nat) : Nat := cp (pcs X wd) (pcs Y wd) n k

/-- What the law's tests leave of the two numbers: X has at most px pieces, Y at most py. -/
structure Fits (X Y wd n m : Nat) : Prop where
  pow : n = 2 ^ m
  m1 : 1 ≤ m
  m2 : m ≤ 12
  w1 : 1 ≤ wd
  w2 : wd ≤ 31
  wm : 2 * wd + m ≤ 65
  fit : ∃ px py, px + py ≤ n + 1 ∧ X < 2 ^ (px * wd) ∧ Y < 2 ^ (py * wd)

theorem pcs_high {X wd px : Nat} (h : X < 2 ^ (px * wd)) : ∀ i, px ≤ i → pcs X wd i = 0 := fun _ hi => pcs_zero h (Nat.mul_le_mul_right _ hi)

theorem fits_zero {X Y wd n m : Nat} (h : Fits X Y wd n m) : ∀ i j, i < n → j < n → n ≤ i + j → pcs X wd i * pcs Y wd j = 0 := by
  obtain ⟨px, py, h1, h2, h3⟩ := h.fit
  intro i j hi hj hij
  by_cases hc : px ≤ i
  · rw [pcs_high h2 i hc, Nat.zero_mul]
  · rw [pcs_high h3 j (by omega), Nat.mul_zero]

theorem coef_le {X Y wd n m : Nat} (h : Fits X Y wd n m) (k : Nat) : coef X Y wd n k ≤ 2 ^ (m - 1) * ((2 ^ wd - 1) * (2 ^ wd - 1)) := by
  obtain ⟨px, py, h1, h2, h3⟩ := h.fit
  have hn : n = 2 * 2 ^ (m - 1) := by
    have hm1 := h.m1
    rw [h.pow, show m = (m - 1) + 1 by omega, Nat.pow_succ, Nat.add_sub_cancel, Nat.mul_comm]
  have hM : ∀ i j, pcs X wd i * pcs Y wd j ≤ (2 ^ wd - 1) * (2 ^ wd - 1) := fun i j => Nat.mul_le_mul (pcs_le _ _ _) (pcs_le _ _ _)
  by_cases hc : px ≤ 2 ^ (m - 1)
  · refine Nat.le_trans (cp_le_left _ _ px _ (pcs_high h2) hM n k) (Nat.mul_le_mul_right _ (by omega))
  · refine Nat.le_trans (cp_le_right _ _ py _ (pcs_high h3) hM n k) (Nat.mul_le_mul_right _ (by omega))

theorem coef_fine {X Y wd n m : Nat} (h : Fits X Y wd n m) (k : Nat) : coef X Y wd n k + 2 ^ (64 - wd) ≤ 2 ^ 64 ∧ coef X Y wd n k < pP := by
  have h1 := coef_le h k
  have hm2 := h.m2
  have hm1 := h.m1
  have hw2 := h.w2
  have hwm := h.wm
  have ⟨h2, h3⟩ := coef_bounds wd (by omega) (m - 1) (by omega) h.w1 (by omega)
  have h4 : coef X Y wd n k < pP := Nat.lt_of_le_of_lt h1 h3
  refine ⟨?_, h4⟩
  generalize coef X Y wd n k = c at *
  generalize 2 ^ (m - 1) * ((2 ^ wd - 1) * (2 ^ wd - 1)) = z at *
  generalize 2 ^ (64 - wd) = y at *
  omega

theorem coef_over {X Y wd n m : Nat} (h : Fits X Y wd n m) : ∀ i, sumAt wd n (coef X Y wd n) i < 2 ^ 64 := fun i => (carries wd n _ h.w1 (by have := h.w2; omega) (fun k _ => (coef_fine h k).1) i).2

theorem pcs_of_zero (wd j : Nat) : pcs 0 wd j = 0 := by unfold pcs; rw [Nat.zero_div, Nat.zero_mod]

theorem cp_zero {A B : Nat → Nat} (h : ∀ i j, A i * B j = 0) (s k : Nat) : cp A B s k = 0 := by
  induction s with
  | zero => rfl
  | succ s ih => rw [cp, ih, h]; simp

theorem csum_zero (wd n : Nat) (c : Nat → Nat) (h : ∀ i, c i = 0) (i : Nat) : csum wd n c i = 0 := by
  induction i with
  | zero => rfl
  | succ i ih => rw [csum, ih, h]; simp

theorem coef_sum {X Y wd n m : Nat} (h : Fits X Y wd n m) : csum wd n (coef X Y wd n) n = X * Y := by
  obtain ⟨px, py, h1, h2, h3⟩ := h.fit
  by_cases hX : X = 0
  · subst hX
    rw [Nat.zero_mul]
    refine csum_zero wd n _ (fun i => cp_zero (fun i j => by rw [pcs_of_zero, Nat.zero_mul]) n i) n
  · by_cases hY : Y = 0
    · subst hY
      rw [Nat.mul_zero]
      refine csum_zero wd n _ (fun i => cp_zero (fun i j => by rw [pcs_of_zero, Nat.mul_zero]) n i) n
    · have hp1 : 1 ≤ px := by
        cases px with
        | zero => rw [Nat.zero_mul, Nat.pow_zero] at h2; omega
        | succ p => omega
      have hp2 : 1 ≤ py := by
        cases py with
        | zero => rw [Nat.zero_mul, Nat.pow_zero] at h3; omega
        | succ p => omega
      exact conv_sum wd n X Y (Nat.lt_of_lt_of_le h2 (Nat.pow_le_pow_right (by omega) (Nat.mul_le_mul_right _ (by omega)))) (Nat.lt_of_lt_of_le h3 (Nat.pow_le_pow_right (by omega) (Nat.mul_le_mul_right _ (by omega)))) (fits_zero h)

/-- Pointwise: the values of the two polynomials multiply to that of the product's. -/
theorem coef_val {X Y wd n m : Nat} (h : Fits X Y wd n m) (y : Int) : psum (ints (pcs X wd)) y n * psum (ints (pcs Y wd)) y n = psum (ints (coef X Y wd n)) y n := psum_cp _ _ y n (fits_zero h) n (Nat.le_refl _)

/-- So many pieces hold so many bits. -/
theorem pieces_hold {X bl wd px : Nat} (hw : 1 ≤ wd) (h : X < 2 ^ bl) (hp : px = (bl + wd - 1) / wd) : X < 2 ^ (px * wd) := by
  refine Nat.lt_of_lt_of_le h (Nat.pow_le_pow_right (by omega) ?_)
  have h2 : bl + wd - 1 < (px + 1) * wd := by
    rw [hp]
    exact Nat.lt_mul_of_div_lt (Nat.lt_succ_self _) (by omega)
  have h3 : (px + 1) * wd = px * wd + wd := Nat.succ_mul px wd
  omega

theorem pieces_le {bl wd px : Nat} (hw : 1 ≤ wd) (hb : bl ≤ 65536) (hp : px = (bl + wd - 1) / wd) : px ≤ 65536 := by
  have h : (bl + wd - 1) / wd * wd ≤ bl + wd - 1 := Nat.div_mul_le_self _ _
  rw [← hp] at h
  by_cases hc : px ≤ 65536
  · exact hc
  · have h3 : (65536 + 1) * wd ≤ px * wd := Nat.mul_le_mul_right _ (by omega)
    rw [Nat.succ_mul] at h3
    omega

end Go.Proofs.Qxb6003749a
