/-
  THE TRANSFORM: WHAT IT EVALUATES, AND ITS INVERSE. No Go in sight.
-/
import Derived.Test.Qxb6003749aNtt
namespace Go.Proofs.Qxb6003749a

theorem two_pow_succ (k : Nat) : 2 ^ (k + 1) = 2 ^ k + 2 ^ k := by rw [Nat.pow_succ]; omega

/-- Blocks that are whole. -/
theorem fwdB_top (m : Nat) (W s : Nat → Int) (i : Nat) (hi : i < 2 ^ m) : fwdB m W s i = fwd m W s i := by
  unfold fwdB
  rw [Nat.div_eq_of_lt hi, Nat.mod_eq_of_lt hi, Nat.zero_mul]
  congr 1
  funext j
  rw [Nat.zero_add]
theorem bwdB_top (m : Nat) (W s : Nat → Int) (i : Nat) (hi : i < 2 ^ m) : bwdB m W s i = bwd m W s i := by
  unfold bwdB
  rw [Nat.div_eq_of_lt hi, Nat.mod_eq_of_lt hi, Nat.zero_mul]
  congr 1
  funext j
  rw [Nat.zero_add]
theorem fwdB_zero (W s : Nat → Int) (i : Nat) : fwdB 0 W s i = s i := by
  unfold fwdB
  rw [fwd]
  congr 1
  rw [Nat.pow_zero, Nat.div_one, Nat.mul_one, Nat.mod_one]
  rfl
theorem bwdB_zero (W s : Nat → Int) (i : Nat) : bwdB 0 W s i = s i := by
  unfold bwdB
  rw [bwd]
  congr 1
  rw [Nat.pow_zero, Nat.div_one, Nat.mul_one, Nat.mod_one]
  rfl

theorem blk_in (m k i j : Nat) (hk : k ≤ m) (hi : i < 2 ^ m) (hj : j < 2 ^ k) : i / 2 ^ k * 2 ^ k + j < 2 ^ m := by
  obtain ⟨d, rfl⟩ := Nat.exists_eq_add_of_le hk
  have h1 : i / 2 ^ k < 2 ^ d := by
    apply Nat.div_lt_of_lt_mul
    rw [← Nat.pow_add]; exact hi
  have h2 : (i / 2 ^ k + 1) * 2 ^ k ≤ 2 ^ d * 2 ^ k := Nat.mul_le_mul_right _ h1
  rw [Nat.succ_mul, ← Nat.pow_add, Nat.add_comm d k] at h2
  omega

theorem fwdB_cg (m k : Nat) (W s t : Nat → Int) (hk : k ≤ m) (h : ∀ j, j < 2 ^ m → Cg (s j) (t j)) (i : Nat) (hi : i < 2 ^ m) : Cg (fwdB k W s i) (fwdB k W t i) :=
  fwd_cg k W _ _ (fun j hj => h _ (blk_in m k i j hk hi hj)) _ (Nat.mod_lt _ (Nat.two_pow_pos k))
theorem bwdB_cg (m k : Nat) (W s t : Nat → Int) (hk : k ≤ m) (h : ∀ j, j < 2 ^ m → Cg (s j) (t j)) (i : Nat) (hi : i < 2 ^ m) : Cg (bwdB k W s i) (bwdB k W t i) :=
  bwd_cg k W _ _ (fun j hj => h _ (blk_in m k i j hk hi hj)) _ (Nat.mod_lt _ (Nat.two_pow_pos k))

/-! ### The inverse -/
/-- What the table must be for the inverse. -/
def TabInv (m : Nat) (W : Nat → Int) : Prop := ∀ k, k < m → Cg (W (2 ^ k)) 1 ∧ ∀ j, 0 < j → j < 2 ^ k → Cg (W (2 ^ k + j) * W (2 ^ k + (2 ^ k - j))) (-1)

theorem rev_idx (h i : Nat) (hi : 0 < i) (hl : i < h) : (h - i) % h = h - i := Nat.mod_eq_of_lt (by omega)

theorem inv_any (m : Nat) (W : Nat → Int) (hW : TabInv m W) : ∀ (s : Nat → Int) (i : Nat), i < 2 ^ m → Cg (bwd m W (fwd m W s) i) ((2 ^ m : Nat) * s ((2 ^ m - i) % 2 ^ m)) := by
  induction m with
  | zero =>
    intro s i hi
    have : i = 0 := by simpa using hi
    subst this
    rw [bwd, fwd]
    exact Cg.of_eq (by simp)
  | succ k ih =>
    intro s i hi
    have ih' := ih (fun j hj => hW j (by omega))
    have hp := two_pow_succ k
    have h0 : 0 < 2 ^ k := Nat.two_pow_pos k
    have ⟨w1, w2⟩ := hW k (by omega)
    -- the two halves
    have e1 : ∀ i, i < 2 ^ k → Cg (bwd k W (fwd (k + 1) W s) i) ((2 ^ k : Nat) * (fun j => s j + s (j + 2 ^ k)) ((2 ^ k - i) % 2 ^ k)) := by
      intro i hi
      refine (bwd_cg k W _ (fwd k W (fun j => s j + s (j + 2 ^ k))) (fun j hj => Cg.of_eq ?_) i hi).trans (ih' _ i hi)
      rw [fwd, if_pos hj]
    have e2 : ∀ i, i < 2 ^ k → Cg (bwd k W (fun j => fwd (k + 1) W s (2 ^ k + j)) i) ((2 ^ k : Nat) * (fun j => (s j - s (j + 2 ^ k)) * W (2 ^ k + j)) ((2 ^ k - i) % 2 ^ k)) := by
      intro i hi
      refine (bwd_cg k W _ (fwd k W (fun j => (s j - s (j + 2 ^ k)) * W (2 ^ k + j))) (fun j hj => Cg.of_eq ?_) i hi).trans (ih' _ i hi)
      rw [fwd, if_neg (by omega), Nat.add_sub_cancel_left]
    have ec : ((2 ^ (k + 1) : Nat) : Int) = ((2 ^ k : Nat) : Int) + ((2 ^ k : Nat) : Int) := by rw [hp]; omega
    rw [bwd, ec]
    split
    · next hc =>
      refine ((e1 i hc).add ((e2 i hc).mul (Cg.refl _))).trans ?_
      simp only []
      by_cases hz : i = 0
      · subst hz
        rw [Nat.sub_zero, Nat.sub_zero, Nat.mod_self, Nat.mod_self, Nat.add_zero, Nat.zero_add]
        refine (((Cg.refl _).mul (Cg.refl _)).add (((Cg.refl _).mul ((Cg.refl _).mul w1)).mul w1)).trans (Cg.of_eq ?_)
        generalize ((2 ^ k : Nat) : Int) = N
        rw [Int.mul_one, Int.mul_one, Int.mul_add, Int.mul_sub, Int.add_mul]
        omega
      · rw [rev_idx (2 ^ k) i (by omega) hc, rev_idx (2 ^ (k + 1)) i (by omega) (by omega)]
        have e3 : 2 ^ k - i + 2 ^ k = 2 ^ (k + 1) - i := by omega
        rw [e3]
        have hw := (w2 i (by omega) hc)
        have e4 : ∀ N A V U : Int, N * (A * V) * U = N * (A * (U * V)) := by
          intro N A V U
          rw [Int.mul_assoc, Int.mul_assoc, Int.mul_comm V U]
        rw [e4]
        refine ((Cg.refl _).add ((Cg.refl _).mul ((Cg.refl _).mul hw))).trans (Cg.of_eq ?_)
        generalize ((2 ^ k : Nat) : Int) = N
        rw [Int.mul_neg, Int.mul_one, Int.mul_add, Int.mul_neg, Int.mul_sub, Int.add_mul]
        omega
    · next hc =>
      have hi2 : i - 2 ^ k < 2 ^ k := by omega
      refine ((e1 _ hi2).sub ((e2 _ hi2).mul (Cg.refl _))).trans ?_
      simp only []
      by_cases hz : i = 2 ^ k
      · subst hz
        have e5 : (2 ^ (k + 1) - 2 ^ k) % 2 ^ (k + 1) = 2 ^ k := by
          rw [Nat.mod_eq_of_lt (by omega)]; omega
        rw [Nat.sub_self, Nat.sub_zero, Nat.mod_self, Nat.add_zero, Nat.zero_add, e5]
        refine (((Cg.refl _).mul (Cg.refl _)).sub (((Cg.refl _).mul ((Cg.refl _).mul w1)).mul w1)).trans (Cg.of_eq ?_)
        generalize ((2 ^ k : Nat) : Int) = N
        rw [Int.mul_one, Int.mul_one, Int.mul_add, Int.mul_sub, Int.add_mul]
        omega
      · rw [rev_idx (2 ^ k) (i - 2 ^ k) (by omega) hi2, rev_idx (2 ^ (k + 1)) i (by omega) hi]
        have e3 : 2 ^ k - (i - 2 ^ k) = 2 ^ (k + 1) - i := by omega
        have hw := (w2 (i - 2 ^ k) (by omega) hi2)
        have e6 : 2 ^ k + (i - 2 ^ k) = i := by omega
        rw [e6] at hw
        rw [e3] at hw ⊢
        have e4 : ∀ N A V U : Int, N * (A * V) * U = N * (A * (U * V)) := by
          intro N A V U
          rw [Int.mul_assoc, Int.mul_assoc, Int.mul_comm V U]
        rw [e4]
        refine ((Cg.refl _).sub ((Cg.refl _).mul ((Cg.refl _).mul hw))).trans (Cg.of_eq ?_)
        generalize ((2 ^ k : Nat) : Int) = N
        rw [Int.mul_neg, Int.mul_one, Int.mul_add, Int.mul_neg, Int.mul_sub, Int.add_mul]
        omega

/-! ### What it evaluates -/
/-- s 0 + s 1 x + .. + s (n - 1) x^(n - 1). -/
def psum (s : Nat → Int) (x : Int) : Nat → Int
  | 0 => 0
  | n + 1 => psum s x n + s n * x ^ n

theorem psum_split (s : Nat → Int) (x : Int) (a b : Nat) : psum s x (a + b) = psum s x a + x ^ a * psum (fun j => s (a + j)) x b := by
  induction b with
  | zero => simp [psum]
  | succ b ih =>
    rw [← Nat.add_assoc, psum, psum, ih, Int.mul_add, Int.pow_add, Int.add_assoc]
    congr 2
    rw [← Int.mul_assoc, ← Int.mul_assoc, Int.mul_comm (x ^ a)]
theorem psum_add (s t : Nat → Int) (x : Int) (n : Nat) : psum (fun j => s j + t j) x n = psum s x n + psum t x n := by
  induction n with
  | zero => rfl
  | succ n ih => rw [psum, psum, psum, ih, Int.add_mul]; omega
theorem psum_sub (s t : Nat → Int) (x : Int) (n : Nat) : psum (fun j => s j - t j) x n = psum s x n - psum t x n := by
  induction n with
  | zero => rfl
  | succ n ih => rw [psum, psum, psum, ih, Int.sub_mul]; omega
theorem psum_cg (s t : Nat → Int) (x y : Int) (n : Nat) (hs : ∀ j, j < n → Cg (s j * x ^ j) (t j * y ^ j)) : Cg (psum s x n) (psum t y n) := by
  induction n with
  | zero => exact Cg.refl _
  | succ n ih => rw [psum, psum]; exact (ih (fun j hj => hs j (by omega))).add (hs n (by omega))

/-- The low k bits of i, reversed. -/
def revK (i : Nat) : Nat → Nat
  | 0 => 0
  | k + 1 => 2 * revK i k + i / 2 ^ k % 2

theorem revK_low (i m : Nat) (k : Nat) (hk : k ≤ m) : revK (2 ^ m + i) k = revK i k := by
  induction k with
  | zero => rfl
  | succ k ih =>
    rw [revK, revK, ih (by omega)]
    obtain ⟨d, rfl⟩ := Nat.exists_eq_add_of_le hk
    have e1 : 2 ^ (k + 1 + d) = 2 ^ k * (2 * 2 ^ d) := by rw [Nat.pow_add, Nat.pow_succ, Nat.mul_assoc]
    rw [e1, Nat.mul_add_div (Nat.two_pow_pos k), Nat.mul_add_mod]

/-- What the table must be for the evaluation: om k is a root of unity of order 2^k. -/
structure TabEv (m : Nat) (W : Nat → Int) (om : Nat → Int) : Prop where
  sq : ∀ k, k < m → Cg (om (k + 1) ^ 2) (om k)
  half : ∀ k, k < m → Cg (om (k + 1) ^ (2 ^ k)) (-1)
  tab : ∀ k, k < m → ∀ j, j < 2 ^ k → Cg (W (2 ^ k + j)) (om (k + 1) ^ j)

theorem neg_one_pow_even (r : Nat) : ((-1 : Int)) ^ (2 * r) = 1 := by
  rw [Int.pow_mul]
  induction r with
  | zero => rfl
  | succ r ih => rw [Int.pow_succ, ih]; rfl

theorem ev_any (m : Nat) (W om : Nat → Int) (hT : TabEv m W om) : ∀ (s : Nat → Int) (i : Nat), i < 2 ^ m → Cg (fwd m W s i) (psum s (om m ^ revK i m) (2 ^ m)) := by
  induction m with
  | zero =>
    intro s i hi
    have : i = 0 := by simpa using hi
    subst this
    rw [fwd, revK]
    exact Cg.of_eq (by simp [psum])
  | succ k ih =>
    intro s i hi
    have ih' := ih ⟨fun j hj => hT.sq j (by omega), fun j hj => hT.half j (by omega), fun j hj => hT.tab j (by omega)⟩
    have hp := two_pow_succ k
    have h0 : 0 < 2 ^ k := Nat.two_pow_pos k
    have hsq := hT.sq k (by omega)
    have hhalf := hT.half k (by omega)
    have htab := hT.tab k (by omega)
    rw [fwd, revK, hp, psum_split]
    split
    · next hc =>
      have e1 : i / 2 ^ k % 2 = 0 := by rw [Nat.div_eq_of_lt hc]
      rw [e1, Nat.add_zero]
      have hy : Cg ((om (k + 1) ^ (2 * revK i k)) ^ (2 ^ k)) 1 := by
        rw [← Int.pow_mul, Nat.mul_comm (2 * revK i k), Int.pow_mul]
        exact (hhalf.pow _).trans (Cg.of_eq (neg_one_pow_even _))
      have hx : Cg (om (k + 1) ^ (2 * revK i k)) (om k ^ revK i k) := by
        rw [Int.pow_mul]; exact hsq.pow _
      refine (ih' _ i hc).trans ?_
      rw [psum_add]
      refine (Cg.add (psum_cg _ _ _ _ _ fun j _ => (Cg.refl _).mul (hx.symm.pow j)) (psum_cg _ _ _ _ _ fun j _ => (Cg.refl _).mul (hx.symm.pow j))).trans ?_
      refine Cg.add (Cg.refl _) ?_
      refine Cg.trans (Cg.of_eq ?_) ((hy.symm).mul (Cg.refl _))
      rw [Int.one_mul]
      congr 1
      funext j
      rw [Nat.add_comm]
    · next hc =>
      obtain ⟨i', rfl⟩ := Nat.exists_eq_add_of_le (show 2 ^ k ≤ i by omega)
      have hi' : i' < 2 ^ k := by omega
      have e1 : (2 ^ k + i') / 2 ^ k % 2 = 1 := by
        have : (2 ^ k + i') / 2 ^ k = 1 := by
          have h2 := Nat.mul_add_div h0 1 i'
          rw [Nat.mul_one, Nat.div_eq_of_lt hi'] at h2
          exact h2
        rw [this]
      rw [e1, Nat.add_sub_cancel_left, revK_low i' k k (Nat.le_refl _)]
      have hy : Cg ((om (k + 1) ^ (2 * revK i' k + 1)) ^ (2 ^ k)) (-1) := by
        rw [← Int.pow_mul, Nat.mul_comm (2 * revK i' k + 1), Int.pow_mul]
        refine (hhalf.pow _).trans (Cg.of_eq ?_)
        rw [Int.pow_succ, neg_one_pow_even]
        rfl
      have hx : Cg (om (k + 1) ^ (2 * revK i' k)) (om k ^ revK i' k) := by
        rw [Int.pow_mul]; exact hsq.pow _
      refine (ih' _ i' hi').trans ?_
      have hL : Cg (psum (fun j => (s j - s (j + 2 ^ k)) * W (2 ^ k + j)) (om k ^ revK i' k) (2 ^ k)) (psum (fun j => s j - s (j + 2 ^ k)) (om (k + 1) ^ (2 * revK i' k + 1)) (2 ^ k)) := by
        refine psum_cg _ _ _ _ _ fun j hj => ?_
        have e2 : (om (k + 1) ^ (2 * revK i' k + 1)) ^ j = om (k + 1) ^ j * (om (k + 1) ^ (2 * revK i' k)) ^ j := by
          rw [← Int.pow_mul, ← Int.pow_mul, ← Int.pow_add]
          congr 1
          rw [Nat.add_mul, Nat.one_mul, Nat.add_comm]
        rw [e2, ← Int.mul_assoc]
        exact ((Cg.refl _).mul (htab j hj)).mul (hx.symm.pow j)
      refine hL.trans ?_
      rw [psum_sub]
      refine Cg.trans (Cg.of_eq (Int.sub_eq_add_neg)) (Cg.add (Cg.refl _) ?_)
      refine Cg.trans (Cg.of_eq ?_) (hy.symm.mul (Cg.refl _))
      rw [Int.neg_mul, Int.one_mul]
      congr 2
      funext j
      rw [Nat.add_comm]

/-- The table of the evaluation serves the inverse. -/
theorem TabEv.inv {m : Nat} {W om : Nat → Int} (hT : TabEv m W om) : TabInv m W := by
  intro k hk
  constructor
  · have := hT.tab k hk 0 (Nat.two_pow_pos k)
    rwa [Nat.add_zero, Int.pow_zero] at this
  · intro j h0 hj
    refine ((hT.tab k hk j hj).mul (hT.tab k hk (2 ^ k - j) (by omega))).trans ?_
    rw [← Int.pow_add, show j + (2 ^ k - j) = 2 ^ k by omega]
    exact hT.half k hk

end Go.Proofs.Qxb6003749a
