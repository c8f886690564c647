/-
  THE PLAIN MATHEMATICS OF THE TRANSFORM. No Go in sight. All over Int, up to congruence modulo p.
-/
import Derived.Test.Qxb6003749aCg
namespace Go.Proofs.Qxb6003749a

/-- The forward transform of 2^k values by the table W. -/
def fwd : Nat → (Nat → Int) → (Nat → Int) → Nat → Int
  | 0, _, s, i => s i
  | k + 1, W, s, i => if i < 2 ^ k then fwd k W (fun j => s j + s (j + 2 ^ k)) i else fwd k W (fun j => (s j - s (j + 2 ^ k)) * W (2 ^ k + j)) (i - 2 ^ k)

/-- The backward transform of 2^k values by the table W. -/
def bwd : Nat → (Nat → Int) → (Nat → Int) → Nat → Int
  | 0, _, s, i => s i
  | k + 1, W, s, i => if i < 2 ^ k then bwd k W s i + bwd k W (fun j => s (2 ^ k + j)) i * W (2 ^ k + i) else bwd k W s (i - 2 ^ k) - bwd k W (fun j => s (2 ^ k + j)) (i - 2 ^ k) * W i

theorem fwd_cg (k : Nat) (W : Nat → Int) : ∀ (s t : Nat → Int), (∀ j, j < 2 ^ k → Cg (s j) (t j)) → ∀ i, i < 2 ^ k → Cg (fwd k W s i) (fwd k W t i) := by
  induction k with
  | zero => intro s t h i hi; exact h i hi
  | succ k ih =>
    intro s t h i hi
    have hp : 2 ^ (k + 1) = 2 ^ k + 2 ^ k := by rw [Nat.pow_succ]; omega
    rw [hp] at h hi
    unfold fwd
    split
    · next hc => exact ih _ _ (fun j hj => (h j (by omega)).add (h (j + 2 ^ k) (by omega))) i hc
    · next hc => exact ih _ _ (fun j hj => ((h j (by omega)).sub (h (j + 2 ^ k) (by omega))).mul (Cg.refl _)) (i - 2 ^ k) (by omega)

theorem fwd_ext (k : Nat) (W : Nat → Int) : ∀ (s t : Nat → Int), (∀ j, j < 2 ^ k → s j = t j) → ∀ i, i < 2 ^ k → fwd k W s i = fwd k W t i := by
  induction k with
  | zero => intro s t h i hi; exact h i hi
  | succ k ih =>
    intro s t h i hi
    have hp : 2 ^ (k + 1) = 2 ^ k + 2 ^ k := by rw [Nat.pow_succ]; omega
    rw [hp] at h hi
    unfold fwd
    split
    · next hc => exact ih _ _ (fun j hj => by rw [h j (by omega), h (j + 2 ^ k) (by omega)]) i hc
    · next hc => exact ih _ _ (fun j hj => by rw [h j (by omega), h (j + 2 ^ k) (by omega)]) (i - 2 ^ k) (by omega)

theorem bwd_cg (k : Nat) (W : Nat → Int) : ∀ (s t : Nat → Int), (∀ j, j < 2 ^ k → Cg (s j) (t j)) → ∀ i, i < 2 ^ k → Cg (bwd k W s i) (bwd k W t i) := by
  induction k with
  | zero => intro s t h i hi; exact h i hi
  | succ k ih =>
    intro s t h i hi
    have hp : 2 ^ (k + 1) = 2 ^ k + 2 ^ k := by rw [Nat.pow_succ]; omega
    rw [hp] at h hi
    unfold bwd
    split
    · next hc => exact (ih _ _ (fun j hj => h j (by omega)) i hc).add ((ih _ _ (fun j hj => h (2 ^ k + j) (by omega)) i hc).mul (Cg.refl _))
    · next hc => exact (ih _ _ (fun j hj => h j (by omega)) (i - 2 ^ k) (by omega)).sub ((ih _ _ (fun j hj => h (2 ^ k + j) (by omega)) (i - 2 ^ k) (by omega)).mul (Cg.refl _))

/-! ### Stage by stage -/
/-- Each block of 2^k values, transformed. -/
def fwdB (k : Nat) (W : Nat → Int) (s : Nat → Int) (i : Nat) : Int := fwd k W (fun j => s (i / 2 ^ k * 2 ^ k + j)) (i % 2 ^ k)
def bwdB (k : Nat) (W : Nat → Int) (s : Nat → Int) (i : Nat) : Int := bwd k W (fun j => s (i / 2 ^ k * 2 ^ k + j)) (i % 2 ^ k)

/-- One stage, half-length h. -/
def stF (h : Nat) (W : Nat → Int) (s : Nat → Int) (i : Nat) : Int := if i % (2 * h) < h then s i + s (i + h) else (s (i - h) - s i) * W (i % (2 * h))
def stB (h : Nat) (W : Nat → Int) (s : Nat → Int) (i : Nat) : Int := if i % (2 * h) < h then s i + s (i + h) * W (h + i % (2 * h)) else s (i - h) - s i * W (i % (2 * h))

theorem blk_lo (i h : Nat) (hh : 0 < h) (hl : i % (2 * h) < h) : i / h * h = i / (2 * h) * (2 * h) ∧ i % h = i % (2 * h) := by
  have h1 := Nat.div_add_mod i (2 * h)
  have h2 : i = h * (2 * (i / (2 * h))) + i % (2 * h) := by
    rw [← Nat.mul_assoc, Nat.mul_comm h 2]; exact h1.symm
  have h3 : i / h = 2 * (i / (2 * h)) := by
    conv => lhs; rw [h2]
    rw [Nat.mul_add_div hh, Nat.div_eq_of_lt hl, Nat.add_zero]
  have h4 : i % h = i % (2 * h) := by
    conv => lhs; rw [h2]
    rw [Nat.mul_add_mod, Nat.mod_eq_of_lt hl]
  refine ⟨?_, h4⟩
  rw [h3, Nat.mul_comm 2, Nat.mul_assoc]

theorem blk_hi (i h : Nat) (hh : 0 < h) (hl : h ≤ i % (2 * h)) : i / h * h = i / (2 * h) * (2 * h) + h ∧ i % h = i % (2 * h) - h := by
  have h1 := Nat.div_add_mod i (2 * h)
  have hlt : i % (2 * h) < 2 * h := Nat.mod_lt _ (by omega)
  generalize i / (2 * h) = q at *
  generalize i % (2 * h) = r at *
  have e : h * (2 * q + 1) = 2 * h * q + h := by rw [Nat.mul_add, Nat.mul_one, ← Nat.mul_assoc, Nat.mul_comm h 2]
  have h2 : i = h * (2 * q + 1) + (r - h) := by omega
  subst h2
  have h3 : (h * (2 * q + 1) + (r - h)) / h = 2 * q + 1 := by
    rw [Nat.mul_add_div hh, Nat.div_eq_of_lt (a := r - h) (by omega), Nat.add_zero]
  have h4 : (h * (2 * q + 1) + (r - h)) % h = r - h := by
    rw [Nat.mul_add_mod, Nat.mod_eq_of_lt (by omega)]
  refine ⟨?_, h4⟩
  rw [h3, Nat.add_mul, Nat.one_mul, Nat.mul_comm 2, Nat.mul_assoc]

theorem mod_in (q h t : Nat) (ht : t < 2 * h) : (q * (2 * h) + t) % (2 * h) = t := by
  rw [Nat.mul_comm, Nat.mul_add_mod, Nat.mod_eq_of_lt ht]

/-- A stage, then the smaller blocks: the greater blocks. -/
theorem fwdB_succ (k : Nat) (W s : Nat → Int) (i : Nat) : fwdB (k + 1) W s i = fwdB k W (stF (2 ^ k) W s) i := by
  have hp : 2 ^ (k + 1) = 2 * 2 ^ k := by rw [Nat.pow_succ, Nat.mul_comm]
  have h0 : 0 < 2 ^ k := Nat.two_pow_pos k
  unfold fwdB
  rw [hp]
  generalize hq : i / (2 * 2 ^ k) = q
  have hlt : i % (2 * 2 ^ k) < 2 * 2 ^ k := Nat.mod_lt _ (by omega)
  rw [fwd]
  split
  · next hc =>
    have ⟨e1, e2⟩ := blk_lo i (2 ^ k) h0 hc
    rw [e1, e2, hq]
    refine fwd_ext k W _ _ (fun j hj => ?_) _ hc
    rw [stF, mod_in q (2 ^ k) j (by omega), if_pos hj, Nat.add_assoc]
  · next hc =>
    have ⟨e1, e2⟩ := blk_hi i (2 ^ k) h0 (by omega)
    rw [e1, e2, hq]
    refine fwd_ext k W _ _ (fun j hj => ?_) _ (by omega)
    have e3 : q * (2 * 2 ^ k) + 2 ^ k + j = q * (2 * 2 ^ k) + (2 ^ k + j) := by omega
    rw [stF, e3, mod_in q (2 ^ k) (2 ^ k + j) (by omega), if_neg (by omega)]
    have e4 : q * (2 * 2 ^ k) + (2 ^ k + j) - 2 ^ k = q * (2 * 2 ^ k) + j := by omega
    have e5 : q * (2 * 2 ^ k) + (2 ^ k + j) = q * (2 * 2 ^ k) + (j + 2 ^ k) := by omega
    rw [e4, e5]

theorem bwdB_succ (k : Nat) (W s : Nat → Int) (i : Nat) : bwdB (k + 1) W s i = stB (2 ^ k) W (bwdB k W s) i := by
  have hp : 2 ^ (k + 1) = 2 * 2 ^ k := by rw [Nat.pow_succ, Nat.mul_comm]
  have h0 : 0 < 2 ^ k := Nat.two_pow_pos k
  have hlt : i % (2 * 2 ^ k) < 2 * 2 ^ k := Nat.mod_lt _ (by omega)
  have hdm : i / (2 * 2 ^ k) * (2 * 2 ^ k) + i % (2 * 2 ^ k) = i := by rw [Nat.mul_comm]; exact Nat.div_add_mod _ _
  unfold stB bwdB
  rw [hp]
  rw [bwd]
  by_cases hc : i % (2 * 2 ^ k) < 2 ^ k
  · rw [if_pos hc, if_pos hc]
    have ⟨e1, e2⟩ := blk_lo i (2 ^ k) h0 hc
    have hm : (i + 2 ^ k) % (2 * 2 ^ k) = i % (2 * 2 ^ k) + 2 ^ k := by
      rw [Nat.add_mod, Nat.mod_eq_of_lt (show 2 ^ k < 2 * 2 ^ k by omega), Nat.mod_eq_of_lt (by omega)]
    have hq : (i + 2 ^ k) / (2 * 2 ^ k) = i / (2 * 2 ^ k) := by
      rw [Nat.div_eq_iff (by omega)]
      generalize i / (2 * 2 ^ k) * (2 * 2 ^ k) = z at *
      omega
    have ⟨e3, e4⟩ := blk_hi (i + 2 ^ k) (2 ^ k) h0 (by omega)
    rw [e1, e2, e3, e4, hm, hq]
    congr 2
    · congr 1
      · funext j
        congr 1
        omega
      · omega
  · rw [if_neg hc, if_neg hc]
    have ⟨e1, e2⟩ := blk_hi i (2 ^ k) h0 (by omega)
    have hi : 2 ^ k ≤ i := Nat.le_trans (by omega) (Nat.mod_le i (2 * 2 ^ k))
    have hm : (i - 2 ^ k) % (2 * 2 ^ k) = i % (2 * 2 ^ k) - 2 ^ k := by
      have : i - 2 ^ k = i / (2 * 2 ^ k) * (2 * 2 ^ k) + (i % (2 * 2 ^ k) - 2 ^ k) := by omega
      rw [this, mod_in _ _ _ (by omega)]
    have hq : (i - 2 ^ k) / (2 * 2 ^ k) = i / (2 * 2 ^ k) := by
      rw [Nat.div_eq_iff (by omega)]
      generalize i / (2 * 2 ^ k) * (2 * 2 ^ k) = z at *
      omega
    have ⟨e3, e4⟩ := blk_lo (i - 2 ^ k) (2 ^ k) h0 (by omega)
    rw [e1, e2, e3, e4, hm, hq]
    congr 2
    congr 1
    funext j
    congr 1
    omega

end Go.Proofs.Qxb6003749a
