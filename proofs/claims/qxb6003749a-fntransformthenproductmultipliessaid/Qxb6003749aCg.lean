/-
  CONGRUENCE MODULO p ON Int. No Go in sight.
-/
import Derived.Test.Qxb6003749aModP
namespace Go.Proofs.Qxb6003749a

def Cg (a b : Int) : Prop := a % 18446744069414584321 = b % 18446744069414584321

theorem Cg.refl (a : Int) : Cg a a := rfl
theorem Cg.of_eq {a b : Int} (h : a = b) : Cg a b := by rw [h]; rfl
theorem Cg.symm {a b : Int} (h : Cg a b) : Cg b a := Eq.symm h
theorem Cg.trans {a b c : Int} (h : Cg a b) (k : Cg b c) : Cg a c := Eq.trans h k
theorem Cg.add {a b c d : Int} (h : Cg a b) (k : Cg c d) : Cg (a + c) (b + d) := by
  unfold Cg at *
  rw [Int.add_emod, h, k, ← Int.add_emod]
theorem Cg.sub {a b c d : Int} (h : Cg a b) (k : Cg c d) : Cg (a - c) (b - d) := by
  unfold Cg at *
  rw [Int.sub_emod, h, k, ← Int.sub_emod]
theorem Cg.mul {a b c d : Int} (h : Cg a b) (k : Cg c d) : Cg (a * c) (b * d) := by
  unfold Cg at *
  rw [Int.mul_emod, h, k, ← Int.mul_emod]
theorem Cg.pow {a b : Int} (h : Cg a b) (n : Nat) : Cg (a ^ n) (b ^ n) := by
  induction n with
  | zero => rw [Int.pow_zero, Int.pow_zero]; rfl
  | succ n ih => rw [Int.pow_succ, Int.pow_succ]; exact ih.mul h
theorem Cg.of_nat {a b : Nat} (h : a % pP = b % pP) : Cg (a : Int) (b : Int) := by
  unfold Cg
  unfold pP at h
  omega
theorem Cg.nat {a b : Nat} (h : Cg (a : Int) (b : Int)) (ha : a < pP) (hb : b < pP) : a = b := by
  unfold Cg at h
  unfold pP at ha hb
  omega
theorem Cg.nat_mod {a b : Nat} (h : Cg (a : Int) (b : Int)) : a % pP = b % pP := by
  unfold Cg at h
  unfold pP
  omega

theorem cg_addM (a b : Nat) (ha : a < 18446744073709551616) (hb : b < 18446744073709551616) : Cg ((addM a b : Nat) : Int) ((a : Int) + (b : Int)) := by
  have := Cg.of_nat (addM_mod a b ha hb)
  simpa using this
theorem cg_mulM (a b : Nat) (ha : a < 18446744073709551616) (hb : b < 18446744073709551616) : Cg ((mulM a b : Nat) : Int) ((a : Int) * (b : Int)) := by
  have := Cg.of_nat (mulM_mod a b ha hb)
  simpa using this
theorem cg_subM (a b : Nat) (ha : a < 18446744073709551616) (hb : b < 18446744073709551616) : Cg ((subM a b : Nat) : Int) ((a : Int) - (b : Int)) := by
  have h := Cg.of_nat (subM_mod a b ha hb)
  have h2 : Cg ((subM a b + b : Nat) : Int) (a : Int) := h
  rw [Int.natCast_add] at h2
  have h3 := h2.sub (Cg.refl (b : Int))
  have e : ((subM a b : Nat) : Int) + (b : Int) - (b : Int) = ((subM a b : Nat) : Int) := by omega
  rw [e] at h3
  exact h3

/-- Squaring halves the exponent. -/
theorem cg_even {r x x' : Int} {e : Nat} (he : e % 2 = 0) (hx : Cg x' (x * x)) : Cg (r * x' ^ (e / 2)) (r * x ^ e) := by
  have h1 : x ^ e = (x * x) ^ (e / 2) := by
    have : e = 2 * (e / 2) := by omega
    rw [this, Int.pow_mul, Nat.mul_div_cancel_left _ (by omega)]
    congr 1
    rw [Int.pow_succ, Int.pow_succ, Int.pow_zero, Int.one_mul]
  rw [h1]
  exact (Cg.refl r).mul (hx.pow _)
theorem cg_odd {r r' x x' : Int} {e : Nat} (he : e % 2 = 1) (hx : Cg x' (x * x)) (hr : Cg r' (r * x)) : Cg (r' * x' ^ (e / 2)) (r * x ^ e) := by
  have h1 : r * x ^ e = (r * x) * (x * x) ^ (e / 2) := by
    have h2 : x ^ e = x ^ (2 * (e / 2)) * x := by rw [← Int.pow_succ]; congr 1; omega
    rw [h2, Int.pow_mul]
    have h3 : x ^ 2 = x * x := by rw [Int.pow_succ, Int.pow_succ, Int.pow_zero, Int.one_mul]
    rw [h3, Int.mul_comm (_ ^ _) x, Int.mul_assoc]
  rw [h1]
  exact hr.mul (hx.pow _)

/-! ### A power that is reckoned -/
def powP : Nat → Nat → Nat → Nat → Nat
  | 0, _, _, r => r
  | f + 1, x, e, r => if e = 0 then r else powP f (x * x % pP) (e / 2) (if e % 2 = 1 then r * x % pP else r)

theorem cg_mod (a : Nat) : Cg ((a % pP : Nat) : Int) (a : Int) := by
  unfold Cg pP
  omega

theorem powP_cg (f : Nat) : ∀ (x e r : Nat), e < 2 ^ f → Cg ((powP f x e r : Nat) : Int) ((r : Int) * (x : Int) ^ e) := by
  induction f with
  | zero =>
    intro x e r he
    have : e = 0 := by simpa using he
    subst this
    simp [powP, Cg.refl]
  | succ f ih =>
    intro x e r he
    unfold powP
    split
    · next h => subst h; simp [Cg.refl]
    · next h =>
      have he2 : e / 2 < 2 ^ f := by rw [Nat.pow_succ] at he; omega
      have hx : Cg ((x * x % pP : Nat) : Int) ((x : Int) * (x : Int)) := by
        have := cg_mod (x * x)
        simpa using this
      split
      · next ho =>
        refine (ih _ _ _ he2).trans ?_
        refine cg_odd ho hx ?_
        have := cg_mod (r * x)
        simpa using this
      · next ho =>
        refine (ih _ _ _ he2).trans ?_
        exact cg_even (by omega) hx

end Go.Proofs.Qxb6003749a
