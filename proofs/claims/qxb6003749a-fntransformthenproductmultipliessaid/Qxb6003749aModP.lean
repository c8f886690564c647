/-
  THE PLAIN LAWS OF THE ARITHMETIC MODULO p. No Go in sight; nothing is imported.
-/
namespace Go.Proofs.Qxb6003749a

def lo64 (x y : Nat) : Nat := (x + y) % 18446744073709551616
def hi64 (x y : Nat) : Nat := (x + y) / 18446744073709551616
def dif64 (x y : Nat) : Nat := (x + 18446744073709551616 - y) % 18446744073709551616
def bor64 (x y : Nat) : Nat := if x < y then 1 else 0
def eps (c : Nat) : Nat := c * 4294967295
def l32 (x : Nat) : Nat := x % 4294967296
def h32 (x : Nat) : Nat := x / 4294967296
def sub64w (x y : Nat) : Nat := (x + 18446744073709551616 - y) % 18446744073709551616

/-- The prime 2^64 - 2^32 + 1. -/
def pP : Nat := 18446744069414584321

/-! ### Mul64, by halves -/
def mA (x y : Nat) : Nat := l32 x * l32 y
def mB (x y : Nat) : Nat := h32 x * l32 y
def mT (x y : Nat) : Nat := mB x y + h32 (mA x y)
def mC (x y : Nat) : Nat := l32 x * h32 y
def mD (x y : Nat) : Nat := l32 (mT x y) + mC x y
def mE (x y : Nat) : Nat := h32 x * h32 y
def mF (x y : Nat) : Nat := mE x y + h32 (mT x y)
def hiM (x y : Nat) : Nat := x * y / 18446744073709551616
def loM (x y : Nat) : Nat := x * y % 18446744073709551616

theorem l32_le (x : Nat) : l32 x ≤ 4294967295 := by unfold l32; omega
theorem h32_le (x : Nat) (h : x < 18446744073709551616) : h32 x ≤ 4294967295 := by unfold h32; omega

theorem prod_le {a b : Nat} (ha : a ≤ 4294967295) (hb : b ≤ 4294967295) : a * b ≤ 18446744065119617025 := Nat.mul_le_mul ha hb

theorem mA_le (x y : Nat) : mA x y ≤ 18446744065119617025 := prod_le (l32_le x) (l32_le y)
theorem mB_le (x y : Nat) (hx : x < 18446744073709551616) : mB x y ≤ 18446744065119617025 := prod_le (h32_le x hx) (l32_le y)
theorem mC_le (x y : Nat) (hy : y < 18446744073709551616) : mC x y ≤ 18446744065119617025 := prod_le (l32_le x) (h32_le y hy)
theorem mE_le (x y : Nat) (hx : x < 18446744073709551616) (hy : y < 18446744073709551616) : mE x y ≤ 18446744065119617025 := prod_le (h32_le x hx) (h32_le y hy)
theorem mT_lt (x y : Nat) (hx : x < 18446744073709551616) : mT x y < 18446744073709551616 := by
  have h1 := mB_le x y hx
  have h2 := mA_le x y
  unfold mT
  generalize mB x y = B at *
  generalize mA x y = A at *
  unfold h32
  omega
theorem mD_lt (x y : Nat) (hy : y < 18446744073709551616) : mD x y < 18446744073709551616 := by
  have h1 := mC_le x y hy
  have h2 := l32_le (mT x y)
  unfold mD
  omega

theorem mul_halves (x y : Nat) : x * y = mE x y * 18446744073709551616 + (mB x y + mC x y) * 4294967296 + mA x y := by
  have hx : x = h32 x * 4294967296 + l32 x := by unfold h32 l32; omega
  have hy : y = h32 y * 4294967296 + l32 y := by unfold h32 l32; omega
  unfold mE mB mC mA
  generalize h32 x = a at *
  generalize l32 x = b at *
  generalize h32 y = c at *
  generalize l32 y = d at *
  subst hx hy
  rw [Nat.add_mul, Nat.mul_add, Nat.mul_add]
  have e1 : a * 4294967296 * (c * 4294967296) = a * c * 18446744073709551616 := by
    rw [Nat.mul_assoc, Nat.mul_left_comm 4294967296, ← Nat.mul_assoc]
  have e2 : a * 4294967296 * d = a * d * 4294967296 := by rw [Nat.mul_assoc, Nat.mul_comm 4294967296, ← Nat.mul_assoc]
  have e3 : b * (c * 4294967296) = b * c * 4294967296 := by rw [Nat.mul_assoc]
  omega

theorem hi_eq (x y : Nat) : mF x y + h32 (mD x y) = hiM x y := by
  have h := mul_halves x y
  unfold mF hiM
  rw [h]
  unfold mD mT
  generalize mE x y = E at *
  generalize mB x y = B at *
  generalize mC x y = C at *
  generalize mA x y = A at *
  unfold h32 l32
  omega

theorem hiM_lt (x y : Nat) (hx : x < 18446744073709551616) (hy : y < 18446744073709551616) : hiM x y < 18446744073709551616 := by
  unfold hiM
  have h : x * y < 18446744073709551616 * 18446744073709551616 := Nat.mul_lt_mul_of_lt_of_lt hx hy
  exact Nat.div_lt_of_lt_mul h

/-! ### addMod, subMod, mulMod -/
def addM (a b : Nat) : Nat := (lo64 (lo64 a b) (eps (hi64 a b)) + eps (hi64 (lo64 a b) (eps (hi64 a b)))) % 18446744073709551616
def subM (a b : Nat) : Nat := sub64w (dif64 (dif64 a b) (eps (bor64 a b))) (eps (bor64 (dif64 a b) (eps (bor64 a b))))
def mulT (a b : Nat) : Nat := sub64w (dif64 (loM a b) (h32 (hiM a b))) (eps (bor64 (loM a b) (h32 (hiM a b))))
def mulQ (a b : Nat) : Nat := l32 (hiM a b) * 4294967296 - l32 (hiM a b)
def mulM (a b : Nat) : Nat := (lo64 (mulT a b) (mulQ a b) + eps (hi64 (mulT a b) (mulQ a b))) % 18446744073709551616

theorem addM_lt (a b : Nat) : addM a b < 18446744073709551616 := Nat.mod_lt _ (by decide)
theorem subM_lt (a b : Nat) : subM a b < 18446744073709551616 := Nat.mod_lt _ (by decide)
theorem mulM_lt (a b : Nat) : mulM a b < 18446744073709551616 := Nat.mod_lt _ (by decide)

theorem lohi (x y : Nat) (hx : x < 18446744073709551616) (hy : y < 18446744073709551616) : lo64 x y + 18446744073709551616 * hi64 x y = x + y ∧ lo64 x y < 18446744073709551616 ∧ hi64 x y ≤ 1 := by
  unfold lo64 hi64
  omega

theorem addM_eq (a b : Nat) (ha : a < 18446744073709551616) (hb : b < 18446744073709551616) : ∃ k, addM a b + k * pP = a + b := by
  have ⟨h1, h2, h3⟩ := lohi a b ha hb
  unfold addM
  generalize lo64 a b = s at *
  generalize hi64 a b = c at *
  have he : eps c < 18446744073709551616 := by unfold eps; omega
  have ⟨h4, h5, h6⟩ := lohi s (eps c) h2 he
  generalize lo64 s (eps c) = s2 at *
  generalize hi64 s (eps c) = c2 at *
  refine ⟨c + c2, ?_⟩
  unfold eps at *
  unfold pP
  have hnw : s2 + c2 * 4294967295 < 18446744073709551616 := by omega
  rw [Nat.mod_eq_of_lt hnw]
  omega

theorem addM_mod (a b : Nat) (ha : a < 18446744073709551616) (hb : b < 18446744073709551616) : addM a b % pP = (a + b) % pP := by
  obtain ⟨k, hk⟩ := addM_eq a b ha hb
  rw [← hk, Nat.add_mul_mod_self_right]

theorem subM_mod (a b : Nat) (ha : a < 18446744073709551616) (hb : b < 18446744073709551616) : (subM a b + b) % pP = a % pP := by
  unfold subM sub64w dif64 bor64 eps pP
  split <;> split <;> omega

theorem difbor (x y : Nat) (hx : x < 18446744073709551616) (hy : y < 18446744073709551616) : dif64 x y + y = x + 18446744073709551616 * bor64 x y ∧ dif64 x y < 18446744073709551616 ∧ bor64 x y ≤ 1 := by
  unfold dif64 bor64
  split <;> omega

theorem mulM_eq (a b : Nat) (ha : a < 18446744073709551616) (hb : b < 18446744073709551616) : ∃ j k, mulM a b + j * pP = a * b + k * pP := by
  have h1 := hiM_lt a b ha hb
  have h2 : a * b = hiM a b * 18446744073709551616 + loM a b := by
    unfold hiM loM
    rw [Nat.mul_comm _ 18446744073709551616]
    exact (Nat.div_add_mod _ _).symm
  have h3 : loM a b < 18446744073709551616 := Nat.mod_lt _ (by decide)
  rw [h2]
  unfold mulM mulT mulQ
  generalize hiM a b = H at *
  generalize loM a b = L at *
  have hH : H = h32 H * 4294967296 + l32 H := by unfold h32 l32; omega
  have hh := h32_le H h1
  have hl := l32_le H
  generalize h32 H = u at *
  generalize l32 H = v at *
  have ⟨h4, h5, h6⟩ := difbor L u h3 (by omega)
  generalize dif64 L u = t at *
  generalize bor64 L u = bo at *
  -- t2
  have h7 : sub64w t (eps bo) = t - bo * 4294967295 := by
    unfold sub64w eps
    have : bo * 4294967295 ≤ t := by omega
    omega
  rw [h7]
  have h8 : bo * 4294967295 ≤ t := by omega
  have ht2 : t - bo * 4294967295 < 18446744073709551616 := by omega
  have hq : v * 4294967296 - v < 18446744073709551616 := by omega
  have ⟨h9, h10, h11⟩ := lohi (t - bo * 4294967295) (v * 4294967296 - v) ht2 hq
  generalize lo64 (t - bo * 4294967295) (v * 4294967296 - v) = r at *
  generalize hi64 (t - bo * 4294967295) (v * 4294967296 - v) = c at *
  have hnw : r + eps c < 18446744073709551616 := by unfold eps; omega
  rw [Nat.mod_eq_of_lt hnw]
  unfold eps pP
  clear hnw h7 h2
  -- r + c 2^64 = t - bo eps + v 2^32 - v ; t = L + 2^64 bo - u
  -- r + c eps + (c) p = L - u + bo p + v (2^32 - 1)
  -- H 2^64 + L = (u 2^32 + v) 2^64 + L;  2^96 = -1 + (2^32 + 1) p ; 2^64 = eps + p
  refine ⟨c + u * 4294967297 + v, bo, ?_⟩
  rw [hH]
  omega

theorem mulM_mod (a b : Nat) (ha : a < 18446744073709551616) (hb : b < 18446744073709551616) : mulM a b % pP = a * b % pP := by
  obtain ⟨j, k, h⟩ := mulM_eq a b ha hb
  have h1 : (mulM a b + j * pP) % pP = (a * b + k * pP) % pP := by rw [h]
  rwa [Nat.add_mul_mod_self_right, Nat.add_mul_mod_self_right] at h1

end Go.Proofs.Qxb6003749a
