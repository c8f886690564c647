/-
  ARITHMETIC MODULO p, walked: math/bits.Add64 (60), Sub64 (59), Mul64 (58); addMod (48), subMod (49), mulMod (42).
-/
import Derived.Test.Qxb6003749aMem
import Derived.Test.Qxb6003749aModP
import Derived.WalkSpells
namespace Go.Proofs.Qxb6003749a
open Go.RowKit

theorem add64 (x y : Nat) (w : World) : (callFunc 60 #[.int .u64 ((x : Nat) : Int), .int .u64 ((y : Nat) : Int), .int .u64 0]).run Try.prog w =
    .ok (.value (.tuple #[.int .u64 ((lo64 x y : Nat) : Int), .int .u64 ((hi64 x y : Nat) : Int)])) w := by
  rw [run_callFunc_extern Try.func60 (by kernel_rfl) (by kernel_rfl) (by kernel_rfl) (e := add64Entry) (by kernel_rfl), run_add64 x y 0 (by omega) (by omega) (by omega) (by omega)]
  simp only [Result.andThen]
  unfold lo64 hi64
  congr 5 <;> omega

/-- The model's own row for math/bits.Sub64: the second of its table. -/
def sub64Row : Array Value → Sem Value := (Extern.MathBitsCarry.rows[1]'(by decide)).2

theorem run_sub64Row (x y : Nat) (w : World) :
    (sub64Row #[.int .u64 x, .int .u64 y, .int .u64 0]).run Try.prog w =
      .ok (.tuple #[.int .u64 ((dif64 x y : Nat) : Int), .int .u64 ((bor64 x y : Nat) : Int)]) w := rfl

theorem sub64 (x y : Nat) (w : World) : (callFunc 59 #[.int .u64 ((x : Nat) : Int), .int .u64 ((y : Nat) : Int), .int .u64 0]).run Try.prog w =
    .ok (.value (.tuple #[.int .u64 ((dif64 x y : Nat) : Int), .int .u64 ((bor64 x y : Nat) : Int)])) w := by
  rw [run_callFunc_extern Try.func59 (by kernel_rfl) (by kernel_rfl) (by kernel_rfl) (e := sub64Row) (by kernel_rfl), run_sub64Row x y]
  simp only [Result.andThen]

/-! ### The walk's spellings -/
theorem wrapn {n : Nat} (h : n < 18446744073709551616) {e : Int} (he : e = (n : Int)) : IntKind.u64.wrap e = (n : Int) := by
  rw [IntKind.wrap_u64, he]; omega
theorem wrapn_mod (n : Nat) {e : Int} (he : e = (n : Int)) : IntKind.u64.wrap e = ((n % 18446744073709551616 : Nat) : Int) := by
  rw [IntKind.wrap_u64, he]; omega
theorem eps_int (c : Nat) (h : c ≤ 1) : bits .and .u64 4294967295 (IntKind.u64.wrap (-((c : Nat) : Int))) = ((eps c : Nat) : Int) := by
  have : c = 0 ∨ c = 1 := by omega
  rcases this with rfl | rfl <;> rfl
theorem eps_lt (c : Nat) (h : c ≤ 1) : eps c < 18446744073709551616 := by unfold eps; omega
theorem and32_int (x : Nat) (h : x < 18446744073709551616) : bits .and .u64 (x : Int) 4294967295 = ((l32 x : Nat) : Int) := by
  have := bits_and_u64_nat x 4294967295 h (by decide)
  rw [show ((4294967295 : Nat) : Int) = 4294967295 from rfl] at this
  rw [this, show (4294967295 : Nat) = 2 ^ 32 - 1 from rfl, Nat.and_two_pow_sub_one_eq_mod]
  rfl
theorem shr32_int (x : Nat) : ((x : Int) / 4294967296) = ((h32 x : Nat) : Int) := by unfold h32; omega
theorem mul_int (a b : Nat) (c : Nat) (h : a * b = c) : ((a : Int) * (b : Int)) = (c : Int) := by rw [← h]; simp

def Ret2 (w : World) (a b : Nat) (e : Ending) (w' : World) : Prop := e = .returned (.tuple #[.int .u64 ((a : Nat) : Int), .int .u64 ((b : Nat) : Int)]) ∧ w' = w
def Ret (w : World) (a : Nat) (e : Ending) (w' : World) : Prop := e = .returned (.int .u64 ((a : Nat) : Int)) ∧ w' = w

set_option maxHeartbeats 1000000 in
theorem mul64_any (x y : Nat) (hx : Hid (x < 18446744073709551616)) (hy : Hid (y < 18446744073709551616)) (w : World) : Calls Try.prog 58 #[.int .u64 (x : Int), .int .u64 (y : Int)] w (Ret2 w (hiM x y) (loM x y)) := by
  have r1 := and32_int x hx.out
  have r2 := and32_int y hy.out
  have r3 := shr32_int x
  have r4 := shr32_int y
  have r5 : IntKind.u64.wrap (((l32 x : Nat) : Int) * ((l32 y : Nat) : Int)) = ((mA x y : Nat) : Int) := wrapn (by have := mA_le x y; omega) (mul_int _ _ _ rfl)
  have r6 : IntKind.u64.wrap (((h32 x : Nat) : Int) * ((l32 y : Nat) : Int)) = ((mB x y : Nat) : Int) := wrapn (by have := mB_le x y hx.out; omega) (mul_int _ _ _ rfl)
  have r7 := shr32_int (mA x y)
  have r8 : IntKind.u64.wrap (((mB x y : Nat) : Int) + ((h32 (mA x y) : Nat) : Int)) = ((mT x y : Nat) : Int) := wrapn (mT_lt x y hx.out) (by unfold mT; omega)
  have r9 := and32_int (mT x y) (mT_lt x y hx.out)
  have r10 := shr32_int (mT x y)
  have r11 : IntKind.u64.wrap (((l32 x : Nat) : Int) * ((h32 y : Nat) : Int)) = ((mC x y : Nat) : Int) := wrapn (by have := mC_le x y hy.out; omega) (mul_int _ _ _ rfl)
  have r12 : IntKind.u64.wrap (((l32 (mT x y) : Nat) : Int) + ((mC x y : Nat) : Int)) = ((mD x y : Nat) : Int) := wrapn (mD_lt x y hy.out) (by unfold mD; omega)
  have r13 : IntKind.u64.wrap (((h32 x : Nat) : Int) * ((h32 y : Nat) : Int)) = ((mE x y : Nat) : Int) := wrapn (by have := mE_le x y hx.out hy.out; omega) (mul_int _ _ _ rfl)
  have hF : mF x y < 18446744073709551616 := by have := hi_eq x y; have := hiM_lt x y hx.out hy.out; omega
  have r14 : IntKind.u64.wrap (((mE x y : Nat) : Int) + ((h32 (mT x y) : Nat) : Int)) = ((mF x y : Nat) : Int) := wrapn hF (by unfold mF; omega)
  have r15 := shr32_int (mD x y)
  have r16 : IntKind.u64.wrap (((mF x y : Nat) : Int) + ((h32 (mD x y) : Nat) : Int)) = ((hiM x y : Nat) : Int) := wrapn (hiM_lt x y hx.out hy.out) (by rw [← hi_eq]; omega)
  have r17 : IntKind.u64.wrap ((x : Int) * (y : Int)) = ((loM x y : Nat) : Int) := wrapn_mod _ (mul_int x y _ rfl)
  clear hF
  go_enter Try.func58, Try.ntmps58
  go_wp2
  go_ret2
  exact ⟨rfl, rfl⟩

set_option maxHeartbeats 1000000 in
theorem addMod_any (a b : Nat) (ha : Hid (a < 18446744073709551616)) (hb : Hid (b < 18446744073709551616)) (w : World) : Calls Try.prog 48 #[.int .u64 (a : Int), .int .u64 (b : Int)] w (Ret w (addM a b)) := by
  have ⟨_, k2, k3⟩ := lohi a b ha.out hb.out
  have h1 := add64 a b
  have h2 := eps_int (hi64 a b) k3
  have he : eps (hi64 a b) < 18446744073709551616 := by unfold eps; omega
  have h3 := add64 (lo64 a b) (eps (hi64 a b))
  have ⟨_, _, k6⟩ := lohi (lo64 a b) (eps (hi64 a b)) k2 he
  have h4 := eps_int (hi64 (lo64 a b) (eps (hi64 a b))) k6
  have h5 : IntKind.u64.wrap (((lo64 (lo64 a b) (eps (hi64 a b)) : Nat) : Int) + ((eps (hi64 (lo64 a b) (eps (hi64 a b))) : Nat) : Int)) = ((addM a b : Nat) : Int) := wrapn_mod _ (by omega)
  clear k2 k3 k6 he
  go_enter Try.func48, Try.ntmps48
  go_wp2
  go_ret
  exact ⟨rfl, rfl⟩

theorem wrap_sub (t e : Nat) (he : e < 18446744073709551616) : IntKind.u64.wrap ((t : Int) - (e : Int)) = ((sub64w t e : Nat) : Int) := by
  rw [IntKind.wrap_u64]; unfold sub64w; omega

set_option maxHeartbeats 1000000 in
theorem subMod_any (a b : Nat) (ha : Hid (a < 18446744073709551616)) (hb : Hid (b < 18446744073709551616)) (w : World) : Calls Try.prog 49 #[.int .u64 (a : Int), .int .u64 (b : Int)] w (Ret w (subM a b)) := by
  have ⟨_, k2, k3⟩ := difbor a b ha.out hb.out
  have h1 := sub64 a b
  have h2 := eps_int (bor64 a b) k3
  have he : eps (bor64 a b) < 18446744073709551616 := by unfold eps; omega
  have h3 := sub64 (dif64 a b) (eps (bor64 a b))
  have ⟨_, _, k6⟩ := difbor (dif64 a b) (eps (bor64 a b)) k2 he
  have h4 := eps_int (bor64 (dif64 a b) (eps (bor64 a b))) k6
  have h5 : IntKind.u64.wrap (((dif64 (dif64 a b) (eps (bor64 a b)) : Nat) : Int) - ((eps (bor64 (dif64 a b) (eps (bor64 a b))) : Nat) : Int)) = ((subM a b : Nat) : Int) := wrap_sub _ _ (eps_lt _ k6)
  clear k2 k3 k6 he
  go_enter Try.func49, Try.ntmps49
  go_wp2
  go_ret
  exact ⟨rfl, rfl⟩

set_option maxHeartbeats 1000000 in
theorem mulMod_any (a b : Nat) (ha : Hid (a < 18446744073709551616)) (hb : Hid (b < 18446744073709551616)) (w : World) : Calls Try.prog 42 #[.int .u64 (a : Int), .int .u64 (b : Int)] w (Ret w (mulM a b)) := by
  have k1 := hiM_lt a b ha.out hb.out
  have k2 : loM a b < 18446744073709551616 := Nat.mod_lt _ (by decide)
  have k3 := h32_le (hiM a b) k1
  have k4 := l32_le (hiM a b)
  have h1 := shr32_int (hiM a b)
  have h2 := and32_int (hiM a b) k1
  have h3 := sub64 (loM a b) (h32 (hiM a b))
  have ⟨_, k5, k6⟩ := difbor (loM a b) (h32 (hiM a b)) k2 (by omega)
  have h4 := eps_int (bor64 (loM a b) (h32 (hiM a b))) k6
  have h5 : IntKind.u64.wrap (((dif64 (loM a b) (h32 (hiM a b)) : Nat) : Int) - ((eps (bor64 (loM a b) (h32 (hiM a b))) : Nat) : Int)) = ((mulT a b : Nat) : Int) := wrap_sub _ _ (by unfold eps; omega)
  have h6 : IntKind.u64.wrap (IntKind.u64.wrap (((l32 (hiM a b) : Nat) : Int) * 4294967296) - ((l32 (hiM a b) : Nat) : Int)) = ((mulQ a b : Nat) : Int) := by
    rw [IntKind.wrap_u64, IntKind.wrap_u64]; unfold mulQ; omega
  have h7 := add64 (mulT a b) (mulQ a b)
  have k8 : mulT a b < 18446744073709551616 := Nat.mod_lt _ (by decide)
  have k9 : mulQ a b < 18446744073709551616 := by unfold mulQ; omega
  have ⟨_, _, k10⟩ := lohi (mulT a b) (mulQ a b) k8 k9
  have h8 := eps_int (hi64 (mulT a b) (mulQ a b)) k10
  have h9 : IntKind.u64.wrap (((lo64 (mulT a b) (mulQ a b) : Nat) : Int) + ((eps (hi64 (mulT a b) (mulQ a b)) : Nat) : Int)) = ((mulM a b : Nat) : Int) := wrapn_mod _ (by omega)
  clear k1 k2 k3 k4 k5 k6 k8 k9 k10
  go_enter Try.func42, Try.ntmps42
  go_wp2_with (go_at_call 58; refine (mul64_any a b ha hb _).mono ?_; rintro e w' ⟨rfl, rfl⟩)
  go_ret
  exact ⟨rfl, rfl⟩

end Go.Proofs.Qxb6003749a
