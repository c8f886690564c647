/-
  zzIsPow2 (12), zzLog2 (14), zzRev (18), ZZRoots (16).
-/
import Derived.Test.Qxb6003749aFwdBig
namespace Go.Proofs.Qxb6003749a
open Go.RowKit Go.Deep

theorem bits_and_i64_nat (a b : Nat) (ha : a < 9223372036854775808) (hb : b < 9223372036854775808) : bits .and .i64 (a : Int) (b : Int) = ((a &&& b : Nat) : Int) := by
  have hx : a &&& b < 2 ^ 63 := Nat.and_lt_two_pow _ (by omega)
  have h1 : (BitVec.ofInt 64 (a : Int)).toNat = a := by
    rw [BitVec.ofInt_natCast, BitVec.toNat_ofNat]; exact Nat.mod_eq_of_lt (by omega)
  have h2 : (BitVec.ofInt 64 (b : Int)).toNat = b := by
    rw [BitVec.ofInt_natCast, BitVec.toNat_ofNat]; exact Nat.mod_eq_of_lt (by omega)
  show IntKind.i64.wrap ((BitVec.ofInt 64 (a : Int) &&& BitVec.ofInt 64 (b : Int)).toNat : Int) = _
  rw [BitVec.toNat_and, h1, h2, IntKind.wrap_i64]
  omega
theorem bits_or_i64_nat (a b : Nat) (ha : a < 9223372036854775808) (hb : b < 9223372036854775808) : bits .or .i64 (a : Int) (b : Int) = ((a ||| b : Nat) : Int) := by
  have hx : a ||| b < 2 ^ 63 := Nat.or_lt_two_pow (by omega) (by omega)
  have h1 : (BitVec.ofInt 64 (a : Int)).toNat = a := by
    rw [BitVec.ofInt_natCast, BitVec.toNat_ofNat]; exact Nat.mod_eq_of_lt (by omega)
  have h2 : (BitVec.ofInt 64 (b : Int)).toNat = b := by
    rw [BitVec.ofInt_natCast, BitVec.toNat_ofNat]; exact Nat.mod_eq_of_lt (by omega)
  show IntKind.i64.wrap ((BitVec.ofInt 64 (a : Int) ||| BitVec.ofInt 64 (b : Int)).toNat : Int) = _
  rw [BitVec.toNat_or, h1, h2, IntKind.wrap_i64]
  omega

/-- A power of two, by its bits. -/
theorem pow2_of_and (n : Nat) (h0 : 0 < n) (h : n &&& (n - 1) = 0) : ∃ m, n = 2 ^ m := by
  refine ⟨n.log2, ?_⟩
  have h1 : 2 ^ n.log2 ≤ n := Nat.log2_self_le (by omega)
  have h2 : n < 2 ^ (n.log2 + 1) := Nat.lt_log2_self
  by_cases hc : n = 2 ^ n.log2
  · exact hc
  · have b1 : n.testBit n.log2 = true := Nat.testBit_of_two_pow_le_and_two_pow_add_one_gt h1 h2
    have b2 : (n - 1).testBit n.log2 = true := Nat.testBit_of_two_pow_le_and_two_pow_add_one_gt (by omega) (by omega)
    have b3 : (n &&& (n - 1)).testBit n.log2 = true := by rw [Nat.testBit_and, b1, b2]; rfl
    rw [h, Nat.zero_testBit] at b3
    cases b3

def RetB (w : World) (b : Bool) (e : Ending) (w' : World) : Prop := e = .returned (.bool b) ∧ w' = w
def RetI (w : World) (n : Nat) (e : Ending) (w' : World) : Prop := e = .returned (.int .i64 (n : Int)) ∧ w' = w

theorem isPow2_yes (n : Nat) (h1 : 1 ≤ n) (hn : n ≤ 1048576) (h : n &&& (n - 1) = 0) (w : World) : Calls Try.prog 12 #[.int .i64 (n : Int)] w (RetB w true) := by
  have r1 : bits .and .i64 (n : Int) ((n : Int) - 1) = 0 := by
    have := bits_and_i64_nat n (n - 1) (by omega) (by omega)
    rw [h, show (((n - 1 : Nat)) : Int) = (n : Int) - 1 by omega] at this
    exact this
  go_enter Try.func12, Try.ntmps12
  go_wp2
  go_ret
  exact ⟨rfl, rfl⟩
theorem isPow2_no (n : Nat) (h1 : 1 ≤ n) (hn : n ≤ 1048576) (h : n &&& (n - 1) ≠ 0) (w : World) : Calls Try.prog 12 #[.int .i64 (n : Int)] w (RetB w false) := by
  have r1 : bits .and .i64 (n : Int) ((n : Int) - 1) = (((n &&& (n - 1)) : Nat) : Int) := by
    have := bits_and_i64_nat n (n - 1) (by omega) (by omega)
    rw [show (((n - 1 : Nat)) : Int) = (n : Int) - 1 by omega] at this
    exact this
  generalize n &&& (n - 1) = z at *
  go_enter Try.func12, Try.ntmps12
  go_wp2
  go_ret
  exact ⟨by simp [h], rfl⟩

theorem pow_lt_m {k m : Nat} (h : k < m) : 2 ^ k < 2 ^ m := Nat.pow_lt_pow_right (by omega) h

theorem log2_any (n m : Nat) (hm : Hid (n = 2 ^ m)) (hm2 : m ≤ 20) (hn : n ≤ 1048576) (w : World) : Calls Try.prog 14 #[.int .i64 (n : Int)] w (RetI w m) := by
  go_enter Try.func14, Try.ntmps14
  go_wp2
  go_loop [3] (fun ks => ∃ k : Nat, k ≤ m ∧ ks = .int .i64 (k : Int)) (fun ks => m - (intOf ks).toNat)
  case atStart => exact ⟨0, Nat.zero_le _, rfl⟩
  case round =>
    obtain ⟨k, hk, rfl⟩ := hrel
    have hkn : 2 ^ k ≤ n := by rw [hm.out]; exact Nat.pow_le_pow_right (by omega) hk
    have hwr : wrap64 ((2 : Int) ^ k) = ((2 ^ k : Nat) : Int) := by
      rw [two_pow_cast]
      generalize 2 ^ k = z at *
      exact IntWalk.wrap64_in _ ⟨by omega, by omega⟩
    by_cases hlt : k < m
    · have hkm : wrap64 ((2 : Int) ^ k) < (n : Int) := by
        rw [hwr, hm.out]
        exact Int.ofNat_lt.2 (pow_lt_m hlt)
      clear hwr hkn
      go_wp2
      go_round
      case rel => exact ⟨k + 1, by omega, by go_num⟩
      case measure => simp [intOf]; omega
    · have hkm : k = m := by omega
      subst hkm
      have hkm2 : (n : Int) ≤ wrap64 ((2 : Int) ^ k) := by
        rw [hwr, hm.out]
        exact Int.le_refl _
      clear hwr hkn
      go_wp2
      go_ret
      exact ⟨rfl, rfl⟩

def bitK (i k : Nat) : Nat := i / 2 ^ k % 2
def nxtR (r b : Nat) : Nat := 2 * r + b

theorem revK_lt (i k : Nat) : revK i k < 2 ^ k := by
  induction k with
  | zero => simp [revK]
  | succ k ih => rw [revK, Nat.pow_succ]; have := Nat.mod_lt (i / 2 ^ k) (show 0 < 2 by omega); omega

theorem bitK_int (i k : Nat) (hi : i < 1048576) : bits .and .i64 ((i : Int) / 2 ^ k) 1 = ((bitK i k : Nat) : Int) := by
  have h1 : ((i : Int) / 2 ^ k) = ((i / 2 ^ k : Nat) : Int) := by simp
  have := bits_and_i64_nat (i / 2 ^ k) 1 (Nat.lt_of_le_of_lt (Nat.div_le_self _ _) (by omega)) (by decide)
  rw [show ((1 : Nat) : Int) = 1 from rfl, Nat.and_one_is_mod] at this
  rw [h1]
  exact this

theorem nxtR_int (r b : Nat) (hr : r < 1048576) (hb : b < 2) : bits .or .i64 ((r : Int) * 2) (b : Int) = ((nxtR r b : Nat) : Int) := by
  have h1 : ((r : Int) * 2) = ((r * 2 : Nat) : Int) := by omega
  rw [h1, bits_or_i64_nat _ _ (by omega) (by omega)]
  congr 1
  have : r * 2 ||| b = 2 ^ 1 * r + b := by
    rw [Nat.two_pow_add_eq_or_of_lt (i := 1) (by omega) r, Nat.mul_comm]
  rw [this]
  rfl

set_option maxHeartbeats 400000 in
theorem rev_any (i b : Nat) (hi : i < 1048576) (hb : b ≤ 20) (w : World) : Calls Try.prog 18 #[.int .i64 (i : Int), .int .i64 (b : Int)] w (RetI w (revK i b)) := by
  go_enter Try.func18, Try.ntmps18
  go_wp2
  go_loop [5, 6] (fun rs ks => ∃ k r : Nat, k ≤ b ∧ ks = .int .i64 (k : Int) ∧ rs = .int .i64 (r : Int) ∧ Hid (r = revK i k)) (fun _ ks => b - (intOf ks).toNat)
  case atStart => exact ⟨0, 0, Nat.zero_le _, rfl, rfl, rfl⟩
  case round =>
    obtain ⟨k, r, hk, rfl, rfl, hr⟩ := hrel
    by_cases hlt : k < b
    · have hrb : r < 1048576 := by
        rw [hr.out]
        exact Nat.lt_of_lt_of_le (revK_lt i k) (show 2 ^ k ≤ 2 ^ 20 from Nat.pow_le_pow_right (by omega) (by omega))
      have r1 := bitK_int i k hi
      have r2 := nxtR_int r (bitK i k) hrb (Nat.mod_lt _ (by omega))
      go_wp2
      go_round
      case rel => exact ⟨k + 1, nxtR r (bitK i k), by omega, by go_num, rfl, by rw [hr.out]; rfl⟩
      case measure => simp [intOf]; omega
    · have hkb : k = b := by omega
      subst hkb
      go_wp2
      go_ret
      exact ⟨by rw [← hr.out]; rfl, rfl⟩

/-- ZZRoots. -/
theorem zzRoots_any (n m E : Nat) (hm : Hid (n = 2 ^ m)) (hn1 : 1 ≤ n) (hn : n ≤ 8192) (hE : Hid ((18446744069414584320 : Int) / (n : Int) = (E : Int))) (hEw : Wd E) (w : World) :
    Calls Try.prog 16 #[.int .i64 (n : Int)] w (RetTab w n m E) := by
  go_enter Try.func16, Try.ntmps16
  go_wp2_with fail
  refine (roots_any n m E hm hn1 hn hE.out hEw w).mono ?_
  rintro e w1 ⟨b, g, S, rfl, h1, h2, h3, h4, h5, h6⟩
  have H1 : Hid _ := h3
  have H2 : Hid _ := h4
  have H3 : Hid _ := h5
  clear h3 h4 h5
  go_wp2_with fail
  go_ret
  exact ⟨b, g, S, rfl, h1, h2, H1.out, H2.out, H3.out, h6⟩

/-! ### The table serves -/
def eOf (m : Nat) : Nat := 18446744069414584320 / 2 ^ m

theorem eOf_wd (m : Nat) : Wd (eOf m) := by
  unfold Wd eOf
  exact Nat.lt_of_le_of_lt (Nat.div_le_self _ _) (by decide)

theorem eOf_half (m : Nat) (h1 : 1 ≤ m) (h2 : m ≤ 32) : eOf m * 2 ^ (m - 1) = 9223372034707292160 := by
  have hd : 2 ^ m ∣ 18446744069414584320 := Nat.dvd_trans (Nat.pow_dvd_pow 2 h2) (by decide)
  have e1 : eOf m * 2 ^ m = 18446744069414584320 := Nat.div_mul_cancel hd
  have e2 : 2 ^ m = 2 ^ (m - 1) * 2 := by rw [← Nat.pow_succ]; congr 1; omega
  rw [e2, ← Nat.mul_assoc] at e1
  omega

/-- 7 is no square modulo p. -/
theorem seven_half (e : Nat) (he : e = 9223372034707292160) : Cg ((7 : Int) ^ e) (-1) := by
  have h := powP_cg 64 7 e 1 (by rw [he]; decide)
  rw [show (((1 : Nat)) : Int) = 1 from rfl, Int.one_mul] at h
  have h2 : powP 64 7 e 1 = 18446744069414584320 := by rw [he]; decide +kernel
  rw [h2] at h
  refine Cg.trans (Cg.symm h) ?_
  unfold Cg
  decide

theorem tab_ev {m : Nat} {S : Int} {g : Nat → Nat} (hm : m ≤ 32) (hS : Cg S ((7 : Int) ^ eOf m)) (hL : Levels m 0 S g) : TabEv m (fun i => ((g i : Nat) : Int)) (fun k => S ^ (2 ^ (m - k))) := by
  refine ⟨fun k hk => ?_, fun k hk => ?_, fun k hk j hj => ?_⟩
  · show Cg ((S ^ (2 ^ (m - (k + 1)))) ^ 2) (S ^ (2 ^ (m - k)))
    rw [← Int.pow_mul, ← Nat.pow_succ, show (m - (k + 1)).succ = m - k by omega]
    exact Cg.refl _
  · show Cg ((S ^ (2 ^ (m - (k + 1)))) ^ (2 ^ k)) (-1)
    rw [← Int.pow_mul, ← Nat.pow_add, show m - (k + 1) + k = m - 1 by omega]
    refine (hS.pow _).trans ?_
    rw [← Int.pow_mul]
    exact seven_half _ (eOf_half m (by omega) hm)
  · show Cg ((g (2 ^ k + j) : Nat) : Int) ((S ^ (2 ^ (m - (k + 1)))) ^ j)
    rw [← Int.pow_mul, Nat.mul_comm, show m - (k + 1) = m - 1 - k by omega]
    exact hL k (Nat.zero_le _) hk j hj

/-- The first word of the table (where there is one). -/
theorem tab_one {m : Nat} {S : Int} {g : Nat → Nat} (hm : 1 ≤ m) (hL : Levels m 0 S g) : Cg ((g 1 : Nat) : Int) 1 := by
  have := hL 0 (Nat.le_refl _) (by omega) 0 (by decide)
  simpa using this

/-- The table, with its second word 1 even where there is none. -/
def tabFix (m : Nat) (g : Nat → Nat) (i : Nat) : Nat := if m = 0 ∧ i = 1 then 1 else g i

theorem tabFix_blk {w : World} {b n m : Nat} {g : Nat → Nat} (hm : n = 2 ^ m) (h : Blk w b 27 n g) : Blk w b 27 n (tabFix m g) :=
  h.congr fun j hj => by
    unfold tabFix
    rw [if_neg]
    rintro ⟨rfl, rfl⟩
    simp at hm
    omega
theorem tabFix_wd {n m : Nat} {g : Nat → Nat} (h : ∀ i, i < n → Wd (g i)) : ∀ i, i < n → Wd (tabFix m g i) := by
  intro i hi
  unfold tabFix
  split
  · exact wd_one
  · exact h i hi
theorem tabFix_levels {m : Nat} {S : Int} {g : Nat → Nat} (h : Levels m 0 S g) : Levels m 0 S (tabFix m g) := by
  intro t h1 h2 j hj
  unfold tabFix
  rw [if_neg (by omega)]
  exact h t h1 h2 j hj
theorem tabFix_one {m : Nat} {S : Int} {g : Nat → Nat} (h : Levels m 0 S g) : Cg ((tabFix m g 1 : Nat) : Int) 1 := by
  by_cases hm : m = 0
  · unfold tabFix
    rw [if_pos ⟨hm, rfl⟩]
    exact Cg.refl _
  · exact tab_one (by omega) (tabFix_levels h)

end Go.Proofs.Qxb6003749a
