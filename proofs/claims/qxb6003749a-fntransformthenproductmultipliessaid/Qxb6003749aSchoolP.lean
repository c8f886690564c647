/-
  SCHOOLBOOK MULTIPLICATION: THE PLAIN LAWS. No Go in sight.
-/
import Derived.Test.Qxb6003749aModP
import Derived.Test.Qxb6003749aBits
namespace Go.Proofs.Qxb6003749a

theorem num_upd (n : Nat) (f : Nat → Nat) (k v : Nat) (hk : k < n) : num n (fun i => if i = k then v else f i) + 2 ^ (64 * k) * f k = num n f + 2 ^ (64 * k) * v := by
  induction n with
  | zero => omega
  | succ n ih =>
    rw [num, num]
    by_cases h : k = n
    · subst h
      rw [if_pos rfl]
      have e : num k (fun i => if i = k then v else f i) = num k f := num_congr k _ _ (fun j hj => if_neg (by omega))
      rw [e]
      omega
    · rw [if_neg (by omega)]
      have := ih (by omega)
      omega

/-! ### zzMul64 -/
def mMid (x y : Nat) : Nat := h32 (mA x y) + l32 (mC x y) + l32 (mB x y)
def mG (x y : Nat) : Nat := mE x y + h32 (mC x y)
def mH (x y : Nat) : Nat := mG x y + h32 (mB x y)

theorem mid_lt (x y : Nat) : mMid x y < 18446744073709551616 := by
  have h1 := mA_le x y
  have h2 := l32_le (mC x y)
  have h3 := l32_le (mB x y)
  unfold mMid
  generalize mA x y = A at *
  unfold h32
  omega

theorem hi_eq2 (x y : Nat) : mH x y + h32 (mMid x y) = hiM x y := by
  have h := mul_halves x y
  unfold mH mG hiM
  rw [h]
  unfold mMid
  generalize mE x y = E at *
  generalize mB x y = B at *
  generalize mC x y = C at *
  generalize mA x y = A at *
  unfold h32 l32
  omega

theorem lo_eq2 (x y : Nat) : l32 (mA x y) + mMid x y * 4294967296 % 18446744073709551616 = loM x y := by
  have h := mul_halves x y
  unfold loM
  rw [h]
  unfold mMid
  generalize mE x y = E at *
  generalize mB x y = B at *
  generalize mC x y = C at *
  generalize mA x y = A at *
  unfold h32 l32
  omega

theorem lo_or (x y : Nat) : l32 (mA x y) ||| mMid x y * 4294967296 % 18446744073709551616 = loM x y := by
  rw [← lo_eq2]
  have h1 : mMid x y * 4294967296 % 18446744073709551616 = 2 ^ 32 * (mMid x y % 4294967296) := by omega
  rw [h1, Nat.or_comm, ← Nat.two_pow_add_eq_or_of_lt (i := 32) (by have := l32_le (mA x y); omega) (mMid x y % 4294967296), Nat.add_comm]

/-! ### One word of a row -/
/-- z + x y + carry, its low word and its high one. -/
theorem word_step (z x y c : Nat) (hz : z < 18446744073709551616) (hx : x < 18446744073709551616) (hy : y < 18446744073709551616) (hc : c < 18446744073709551616) :
    lo64 (lo64 z (loM x y)) c + 18446744073709551616 * (hiM x y + hi64 z (loM x y) + hi64 (lo64 z (loM x y)) c) = z + x * y + c ∧ hiM x y + hi64 z (loM x y) + hi64 (lo64 z (loM x y)) c < 18446744073709551616 := by
  have h2 : x * y = hiM x y * 18446744073709551616 + loM x y := by
    unfold hiM loM
    rw [Nat.mul_comm _ 18446744073709551616]
    exact (Nat.div_add_mod _ _).symm
  have h3 : loM x y < 18446744073709551616 := Nat.mod_lt _ (by decide)
  have h4 : x * y ≤ 18446744073709551615 * 18446744073709551615 := Nat.mul_le_mul (by omega) (by omega)
  rw [h2] at h4 ⊢
  generalize hiM x y = H at *
  generalize loM x y = L at *
  have ⟨a1, a2, a3⟩ := lohi z L hz h3
  generalize lo64 z L = s at *
  generalize hi64 z L = c1 at *
  have ⟨b1, b2, b3⟩ := lohi s c a2 hc
  generalize lo64 s c = t at *
  generalize hi64 s c = c2 at *
  exact ⟨by omega, by omega⟩

theorem hi64_lt {z l : Nat} (hz : z < 18446744073709551616) (hl : l < 18446744073709551616) : (lo64 z l < l → hi64 z l = 1) ∧ (¬ lo64 z l < l → hi64 z l = 0) := by
  unfold lo64 hi64
  omega

/-! ### The loops -/
structure SchIn (x y : Nat → Nat) (lx ly i j : Nat) (z : Nat → Nat) (c : Nat) : Prop where
  val : num (lx + ly) z + c * 2 ^ (64 * (i + j)) = num i x * num ly y + x i * num j y * 2 ^ (64 * i)
  wd : ∀ t, t < lx + ly → z t < 2 ^ 64
  tail : ∀ t, i + ly ≤ t → t < lx + ly → z t = 0
  car : c < 2 ^ 64

structure SchOut (x y : Nat → Nat) (lx ly i : Nat) (z : Nat → Nat) : Prop where
  val : num (lx + ly) z = num i x * num ly y
  wd : ∀ t, t < lx + ly → z t < 2 ^ 64
  tail : ∀ t, i + ly ≤ t → t < lx + ly → z t = 0

theorem num_zero (n : Nat) : num n (fun _ => 0) = 0 := by
  induction n with
  | zero => rfl
  | succ n ih => rw [num, ih, Nat.mul_zero]

theorem sch_start (x y : Nat → Nat) (lx ly : Nat) : SchOut x y lx ly 0 (fun _ => 0) :=
  ⟨by rw [num_zero, num, Nat.zero_mul], fun _ _ => Nat.two_pow_pos _, fun _ _ _ => rfl⟩

theorem sch_in {x y z : Nat → Nat} {lx ly i : Nat} (h : SchOut x y lx ly i z) : SchIn x y lx ly i 0 z 0 :=
  ⟨by rw [num, Nat.mul_zero, Nat.zero_mul, Nat.zero_mul]; simpa using h.val, h.wd, h.tail, Nat.two_pow_pos _⟩

theorem two64 : (2 : Nat) ^ 64 = 18446744073709551616 := by decide
theorem word_pow (k : Nat) : 2 ^ (64 * (k + 1)) = 18446744073709551616 * 2 ^ (64 * k) := by
  have h : 64 * (k + 1) = 64 + 64 * k := by omega
  have h2 := Nat.pow_add 2 64 (64 * k)
  rw [two64] at h2
  rw [h]
  exact h2

theorem sch_step {x y z : Nat → Nat} {lx ly i j c s c' : Nat} (h : SchIn x y lx ly i j z c) (hi : i < lx) (hj : j < ly) (hs : s + 18446744073709551616 * c' = z (i + j) + x i * y j + c) (hsw : s < 18446744073709551616) (hcw : c' < 18446744073709551616) :
    SchIn x y lx ly i (j + 1) (fun t => if t = i + j then s else z t) c' := by
  have hu := num_upd (lx + ly) z (i + j) s (by omega)
  refine ⟨?_, fun t ht => ?_, fun t h1 h2 => ?_, hcw⟩
  · have ha := h.val
    rw [num]
    generalize num (lx + ly) (fun t => if t = i + j then s else z t) = Z' at *
    generalize num (lx + ly) z = Z at *
    generalize num i x * num ly y = XY at *
    generalize num j y = Nj at *
    have hp : 2 ^ (64 * (i + j)) = 2 ^ (64 * i) * 2 ^ (64 * j) := by rw [← Nat.pow_add]; congr 1; omega
    have hp2 : 2 ^ (64 * (i + (j + 1))) = 18446744073709551616 * 2 ^ (64 * (i + j)) := word_pow (i + j)
    rw [hp2]
    clear hp2
    have e0 : x i * (2 ^ (64 * j) * y j + Nj) * 2 ^ (64 * i) = 2 ^ (64 * (i + j)) * (x i * y j) + x i * Nj * 2 ^ (64 * i) := by
      rw [hp, Nat.mul_add, Nat.add_mul]
      congr 1
      rw [Nat.mul_left_comm (x i), Nat.mul_comm _ (2 ^ (64 * i)), Nat.mul_assoc]
    rw [e0]
    generalize 2 ^ (64 * (i + j)) = p at *
    generalize x i * Nj * 2 ^ (64 * i) = T at *
    have e1 : p * (s + 18446744073709551616 * c') = p * (z (i + j) + x i * y j + c) := by rw [hs]
    rw [Nat.mul_add, Nat.mul_add, Nat.mul_add] at e1
    have e2 : c' * (18446744073709551616 * p) = p * (18446744073709551616 * c') := by
      rw [Nat.mul_comm c', Nat.mul_comm 18446744073709551616 p, Nat.mul_assoc]
    rw [e2]
    rw [Nat.mul_comm c p] at ha
    omega
  · show (if t = i + j then s else z t) < 2 ^ 64
    split
    · exact hsw
    · exact h.wd t ht
  · show (if t = i + j then s else z t) = 0
    rw [if_neg (by omega)]
    exact h.tail t h1 h2

theorem sch_out {x y z : Nat → Nat} {lx ly i c : Nat} (h : SchIn x y lx ly i ly z c) (hi : i < lx) : SchOut x y lx ly (i + 1) (fun t => if t = i + ly then c else z t) := by
  have hu := num_upd (lx + ly) z (i + ly) c (by omega)
  rw [h.tail (i + ly) (by omega) (by omega), Nat.mul_zero, Nat.add_zero] at hu
  refine ⟨?_, fun t ht => ?_, fun t h1 h2 => ?_⟩
  · rw [hu, Nat.mul_comm _ c, h.val, num, Nat.add_mul, Nat.add_comm]
    congr 1
    rw [Nat.mul_comm (x i * num ly y), ← Nat.mul_assoc]
  · show (if t = i + ly then c else z t) < 2 ^ 64
    split
    · exact h.car
    · exact h.wd t ht
  · show (if t = i + ly then c else z t) = 0
    rw [if_neg (by omega)]
    exact h.tail t (by omega) h2

theorem sch_end {x y z : Nat → Nat} {lx ly : Nat} (h : SchOut x y lx ly lx z) (t : Nat) (ht : t < lx + ly) : z t = num lx x * num ly y / 2 ^ (64 * t) % 2 ^ 64 := by
  rw [← h.val, num_word (lx + ly) z h.wd t ht]

end Go.Proofs.Qxb6003749a
