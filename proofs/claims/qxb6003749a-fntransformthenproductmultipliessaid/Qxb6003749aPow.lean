/-
  powMod (46); zzRed (21), zzAdd (19), zzMul (20), zzPow (15).
-/
import Derived.Test.Qxb6003749aMod
import Derived.Test.Qxb6003749aCg
import Derived.WalkSpells
namespace Go.Proofs.Qxb6003749a
open Go.RowKit

def Wd (a : Nat) : Prop := a < 18446744073709551616
/-- A word comes back that is congruent to v; the world stands. -/
def RetCg (w : World) (v : Int) (e : Ending) (w' : World) : Prop := ∃ r : Nat, e = .returned (.int .u64 ((r : Nat) : Int)) ∧ Wd r ∧ Cg (r : Int) v ∧ w' = w
/-- A least residue comes back that is congruent to v; the world stands. -/
def RetRed (w : World) (v : Int) (e : Ending) (w' : World) : Prop := ∃ r : Nat, e = .returned (.int .u64 ((r : Nat) : Int)) ∧ r < pP ∧ Cg (r : Int) v ∧ w' = w

theorem mulMod_cg (a b : Nat) (ha : Wd a) (hb : Wd b) (w : World) : Calls Try.prog 42 #[.int .u64 (a : Int), .int .u64 (b : Int)] w (RetCg w ((a : Int) * (b : Int))) := by
  refine (mulMod_any a b ha hb w).mono ?_
  rintro e w' ⟨rfl, rfl⟩
  exact ⟨_, rfl, mulM_lt a b, cg_mulM a b ha hb, rfl⟩

theorem and1_even (e : Nat) (h : Wd e) (he : e % 2 = 0) : bits .and .u64 (e : Int) 1 = 0 := by
  have := bits_and_u64_nat e 1 h (by decide)
  rw [show ((1 : Nat) : Int) = 1 from rfl, Nat.and_one_is_mod, he] at this
  exact this
theorem and1_odd (e : Nat) (h : Wd e) (he : e % 2 = 1) : bits .and .u64 (e : Int) 1 = 1 := by
  have := bits_and_u64_nat e 1 h (by decide)
  rw [show ((1 : Nat) : Int) = 1 from rfl, Nat.and_one_is_mod, he] at this
  exact this

set_option maxHeartbeats 1000000 in
theorem powMod_any (x e : Nat) (hx : Wd x) (he : Wd e) (w : World) : Calls Try.prog 46 #[.int .u64 (x : Int), .int .u64 (e : Int)] w (RetCg w ((x : Int) ^ e)) := by
  go_enter Try.func46, Try.ntmps46
  go_wp2
  go_loop [0, 1, 5] (fun xs es rs => ∃ a b r : Nat, xs = .int .u64 (a : Int) ∧ es = .int .u64 (b : Int) ∧ rs = .int .u64 (r : Int) ∧ Wd a ∧ Wd b ∧ Wd r ∧ Hid (Cg ((r : Int) * (a : Int) ^ b) ((x : Int) ^ e))) (fun _ es _ => (intOf es).toNat)
  case atStart => exact ⟨x, e, 1, rfl, rfl, rfl, hx, he, by unfold Wd; decide, Cg.of_eq (by simp)⟩
  case round =>
    obtain ⟨a, b, r, rfl, rfl, rfl, ha, hb, hr, hcg⟩ := hrel
    by_cases h0 : 0 < b
    · by_cases ho : b % 2 = 1
      · have h1 := and1_odd b hb ho
        have HO : Hid (b % 2 = 1) := ho
        clear ho
        go_wp2_with fail
        refine (mulMod_cg r a hr ha w).mono ?_
        rintro e w' ⟨r2, rfl, hr2, hcr, rfl⟩
        go_wp2_with fail
        refine (mulMod_cg a a ha ha w').mono ?_
        rintro e w' ⟨a2, rfl, ha2, hca, rfl⟩
        have HR : Hid _ := (cg_odd HO.out hca hcr).trans hcg.out
        clear hcr hca hcg
        go_wp2_with fail
        go_round
        case rel => exact ⟨a2, b / 2, r2, rfl, by go_num, rfl, ha2, by unfold Wd at *; omega, hr2, HR⟩
        case measure => simp [intOf]; omega
      · have h1 := and1_even b hb (by omega)
        have HO : Hid (b % 2 = 0) := (by omega : b % 2 = 0)
        clear ho
        go_wp2_with fail
        refine (mulMod_cg a a ha ha w).mono ?_
        rintro e w' ⟨a2, rfl, ha2, hca, rfl⟩
        have HR : Hid _ := (cg_even HO.out hca).trans hcg.out
        clear hca hcg
        go_wp2_with fail
        go_round
        case rel => exact ⟨a2, b / 2, r, rfl, by go_num, rfl, ha2, by unfold Wd at *; omega, hr, HR⟩
        case measure => simp [intOf]; omega
    · have hb0 : b = 0 := by omega
      subst hb0
      go_wp2_with fail
      go_ret
      exact ⟨r, rfl, hr, by have := hcg.out; simpa using this, rfl⟩

/-! ### The laws' own arithmetic: least residues -/
theorem pP_wd {a : Nat} (h : a < pP) : Wd a := Nat.lt_trans h (by decide)

theorem ret_int {k : IntKind} {a b : Int} (h : a = b) : Ending.returned (.int k a) = .returned (.int k b) := by rw [h]

def redN (x : Nat) : Nat := x - 18446744069414584321
theorem red_any (x : Nat) (hx : Wd x) (w : World) : Calls Try.prog 21 #[.int .u64 (x : Int)] w (RetRed w (x : Int)) := by
  by_cases h : 18446744069414584321 ≤ x
  · have h1 : IntKind.u64.wrap ((x : Int) - 18446744069414584321) = ((redN x : Nat) : Int) := by unfold Wd at hx; rw [IntKind.wrap_u64]; unfold redN; omega
    have HR : Hid (redN x < pP ∧ Cg ((redN x : Nat) : Int) (x : Int)) := by unfold Wd at hx; unfold redN; exact ⟨by unfold pP; omega, by unfold Cg; omega⟩
    have h2 : decide ((18446744069414584321 : Int) ≤ (x : Int)) = true := decide_eq_true (by omega)
    clear h
    go_enter Try.func21, Try.ntmps21
    go_wp2
    go_ret
    exact ⟨redN x, rfl, HR.out.1, HR.out.2, rfl⟩
  · have HR : Hid (x < pP) := by unfold Hid pP; omega
    have h2 : decide ((18446744069414584321 : Int) ≤ (x : Int)) = false := decide_eq_false (by omega)
    clear h
    go_enter Try.func21, Try.ntmps21
    go_wp2
    go_ret
    exact ⟨x, rfl, HR.out, Cg.refl _, rfl⟩

def cmplN (y : Nat) : Nat := 18446744069414584321 - y
def addL (x y : Nat) : Nat := x - cmplN y
def addS (x y : Nat) : Nat := x + y
theorem add_any (x y : Nat) (hx : x < pP) (hy : y < pP) (w : World) : Calls Try.prog 19 #[.int .u64 (x : Int), .int .u64 (y : Int)] w (RetRed w ((x : Int) + (y : Int))) := by
  unfold pP at hx hy
  have h1 : IntKind.u64.wrap (18446744069414584321 - (y : Int)) = ((cmplN y : Nat) : Int) := by rw [IntKind.wrap_u64]; unfold cmplN; omega
  by_cases h : cmplN y ≤ x
  · have h2 : IntKind.u64.wrap ((x : Int) - ((cmplN y : Nat) : Int)) = ((addL x y : Nat) : Int) := by rw [IntKind.wrap_u64]; unfold addL; omega
    have HR : Hid (addL x y < pP ∧ Cg ((addL x y : Nat) : Int) ((x : Int) + (y : Int))) := by unfold addL cmplN at *; exact ⟨by unfold pP; omega, by unfold Cg; omega⟩
    clear hx hy
    go_enter Try.func19, Try.ntmps19
    go_wp2
    go_ret
    exact ⟨addL x y, by first | rfl | exact ret_int (by unfold addL; omega), HR.out.1, HR.out.2, rfl⟩
  · have h2 : IntKind.u64.wrap ((x : Int) + (y : Int)) = ((addS x y : Nat) : Int) := by rw [IntKind.wrap_u64]; unfold addS cmplN at *; omega
    have HR : Hid (addS x y < pP ∧ Cg ((addS x y : Nat) : Int) ((x : Int) + (y : Int))) := by unfold addS cmplN at *; exact ⟨by unfold pP; omega, by unfold Cg; omega⟩
    clear hx hy
    go_enter Try.func19, Try.ntmps19
    go_wp2
    go_ret
    exact ⟨addS x y, rfl, HR.out.1, HR.out.2, rfl⟩

theorem bit_step (b j : Nat) : b / 2 ^ j = 2 * (b / 2 ^ (j + 1)) + b / 2 ^ j % 2 := by
  rw [Nat.pow_succ, ← Nat.div_div_eq_div_mul]
  omega

theorem bit_int (b j : Nat) (hb : Wd b) : bits .and .u64 ((b : Int) / 2 ^ j) 1 = ((b / 2 ^ j % 2 : Nat) : Int) := by
  have h1 : ((b : Int) / 2 ^ j) = ((b / 2 ^ j : Nat) : Int) := by simp
  have := bits_and_u64_nat (b / 2 ^ j) 1 (Nat.lt_of_le_of_lt (Nat.div_le_self _ _) hb) (by decide)
  rw [show ((1 : Nat) : Int) = 1 from rfl, Nat.and_one_is_mod] at this
  rw [h1]
  exact this

theorem cg_bit1 {a b j : Nat} {r r2 r3 : Int} (h1 : b / 2 ^ j % 2 = 1) (hr : Cg r ((a : Int) * ((b / 2 ^ (j + 1) : Nat) : Int))) (hr2 : Cg r2 (r + r)) (hr3 : Cg r3 (r2 + (a : Int))) : Cg r3 ((a : Int) * ((b / 2 ^ j : Nat) : Int)) := by
  rw [bit_step b j, h1]
  refine hr3.trans ((hr2.add (Cg.refl _)).trans (((hr.add hr).add (Cg.refl _)).trans (Cg.of_eq ?_)))
  generalize b / 2 ^ (j + 1) = q
  rw [show ((2 * q + 1 : Nat) : Int) = (q : Int) + q + 1 by omega, Int.mul_add, Int.mul_add, Int.mul_one]
theorem cg_bit0 {a b j : Nat} {r r2 : Int} (h1 : b / 2 ^ j % 2 = 0) (hr : Cg r ((a : Int) * ((b / 2 ^ (j + 1) : Nat) : Int))) (hr2 : Cg r2 (r + r)) : Cg r2 ((a : Int) * ((b / 2 ^ j : Nat) : Int)) := by
  rw [bit_step b j, h1]
  refine hr2.trans ((hr.add hr).trans (Cg.of_eq ?_))
  generalize b / 2 ^ (j + 1) = q
  rw [show ((2 * q + 0 : Nat) : Int) = (q : Int) + q by omega, Int.mul_add]

set_option maxHeartbeats 1000000 in
theorem mul_any (x y : Nat) (hx : Wd x) (hy : Wd y) (w : World) : Calls Try.prog 20 #[.int .u64 (x : Int), .int .u64 (y : Int)] w (RetRed w ((x : Int) * (y : Int))) := by
  go_enter Try.func20, Try.ntmps20
  go_wp2_with fail
  refine (red_any x hx w).mono ?_
  rintro e w' ⟨a, rfl, ha, hca, rfl⟩
  go_wp2_with fail
  refine (red_any y hy w').mono ?_
  rintro e w' ⟨b, rfl, hb, hcb, rfl⟩
  have HC : Hid _ := hca.mul hcb
  have hbw := pP_wd hb
  clear hca hcb hx hy
  go_wp2_with fail
  go_loop [5, 6] (fun rs is => ∃ (k r : Nat), k ≤ 64 ∧ is = .int .i64 ((k : Int) - 1) ∧ rs = .int .u64 (r : Int) ∧ r < pP ∧ Hid (Cg (r : Int) ((a : Int) * ((b / 2 ^ k : Nat) : Int)))) (fun _ is => (intOf is + 1).toNat)
  case atStart =>
    refine ⟨64, 0, by omega, rfl, rfl, by decide, ?_⟩
    rw [Nat.div_eq_of_lt (show b < 2 ^ 64 from hbw)]
    exact Cg.of_eq (by simp)
  case round =>
    obtain ⟨k, r, hk, rfl, rfl, hr, hcr⟩ := hrel
    cases k with
    | zero =>
      go_wp2_with fail
      go_ret
      exact ⟨r, rfl, hr, (hcr.out.trans (Cg.of_eq (by rw [Nat.pow_zero, Nat.div_one]))).trans HC.out, rfl⟩
    | succ j =>
      rw [show ((j + 1 : Nat) : Int) - 1 = (j : Int) by omega]
      have h1 := bit_int b j hbw
      by_cases hb1 : b / 2 ^ j % 2 = 1
      · rw [hb1] at h1
        have HB : Hid _ := hb1
        clear hb1
        go_wp2_with fail
        refine (add_any r r hr hr w').mono ?_
        rintro e w'' ⟨r2, rfl, hr2, hc2, rfl⟩
        go_wp2_with fail
        refine (add_any r2 a hr2 ha w'').mono ?_
        rintro e w' ⟨r3, rfl, hr3, hc3, rfl⟩
        have HR : Hid _ := cg_bit1 HB.out hcr.out hc2 hc3
        clear hc2 hc3 hcr
        go_wp2_with fail
        go_round
        case rel => exact ⟨j, r3, by omega, rfl, rfl, hr3, HR⟩
        case measure => simp [intOf]
      · have hb0 : b / 2 ^ j % 2 = 0 := by omega
        rw [hb0] at h1
        have HB : Hid _ := hb0
        clear hb1 hb0
        go_wp2_with fail
        refine (add_any r r hr hr w').mono ?_
        rintro e w'' ⟨r2, rfl, hr2, hc2, rfl⟩
        have HR : Hid _ := cg_bit0 HB.out hcr.out hc2
        clear hc2 hcr
        go_wp2_with fail
        go_round
        case rel => exact ⟨j, r2, by omega, rfl, rfl, hr2, HR⟩
        case measure => simp [intOf]

set_option maxHeartbeats 1000000 in
theorem pow_any (x e : Nat) (hx : Wd x) (he : Wd e) (w : World) : Calls Try.prog 15 #[.int .u64 (x : Int), .int .u64 (e : Int)] w (RetRed w ((x : Int) ^ e)) := by
  go_enter Try.func15, Try.ntmps15
  go_wp2_with fail
  refine (red_any x hx w).mono ?_
  rintro e' w' ⟨x1, rfl, hx1, hcx, rfl⟩
  have HX : Hid _ := hcx.pow e
  clear hcx
  go_wp2_with fail
  go_loop [1, 5, 6] (fun es rs xs => ∃ a b r : Nat, xs = .int .u64 (a : Int) ∧ es = .int .u64 (b : Int) ∧ rs = .int .u64 (r : Int) ∧ a < pP ∧ Wd b ∧ r < pP ∧ Hid (Cg ((r : Int) * (a : Int) ^ b) ((x : Int) ^ e))) (fun es _ _ => (intOf es).toNat)
  case atStart => exact ⟨x1, e, 1, rfl, rfl, rfl, hx1, he, by decide, (Cg.of_eq (by simp)).trans HX.out⟩
  case round =>
    obtain ⟨a, b, r, rfl, rfl, rfl, ha, hb, hr, hcg⟩ := hrel
    have haw := pP_wd ha
    have hrw := pP_wd hr
    by_cases h0 : 0 < b
    · by_cases ho : b % 2 = 1
      · have h1 := and1_odd b hb ho
        have HO : Hid (b % 2 = 1) := ho
        clear ho
        go_wp2_with fail
        refine (mul_any r a hrw haw w').mono ?_
        rintro e w'' ⟨r2, rfl, hr2, hcr, rfl⟩
        go_wp2_with fail
        refine (mul_any a a haw haw w'').mono ?_
        rintro e w' ⟨a2, rfl, ha2, hca, rfl⟩
        have HR : Hid _ := (cg_odd HO.out hca hcr).trans hcg.out
        clear hcr hca hcg
        go_wp2_with fail
        go_round
        case rel => exact ⟨a2, b / 2, r2, rfl, by go_num, rfl, ha2, by unfold Wd at *; omega, hr2, HR⟩
        case measure => simp [intOf]; omega
      · have h1 := and1_even b hb (by omega)
        have HO : Hid (b % 2 = 0) := (by omega : b % 2 = 0)
        clear ho
        go_wp2_with fail
        refine (mul_any a a haw haw w').mono ?_
        rintro e w'' ⟨a2, rfl, ha2, hca, rfl⟩
        have HR : Hid _ := (cg_even HO.out hca).trans hcg.out
        clear hca hcg
        go_wp2_with fail
        go_round
        case rel => exact ⟨a2, b / 2, r, rfl, by go_num, rfl, ha2, by unfold Wd at *; omega, hr, HR⟩
        case measure => simp [intOf]; omega
    · have hb0 : b = 0 := by omega
      subst hb0
      go_wp2_with fail
      go_ret
      exact ⟨r, rfl, hr, by have := hcg.out; simpa using this, rfl⟩

end Go.Proofs.Qxb6003749a
