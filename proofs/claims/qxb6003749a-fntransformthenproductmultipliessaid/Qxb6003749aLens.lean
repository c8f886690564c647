/-
  zzTrim (30), zzBitLen64 (39), zzBitLenWords (26), zzWmax (25).
-/
import Derived.Test.Qxb6003749aSchool
namespace Go.Proofs.Qxb6003749a
open Go.RowKit Go.Deep

theorem sl25_to (b n i : Nat) (h2 : i ≤ n) (w : World) :
    (Instr.slice 25 (.slice (some ⟨b, 0, none⟩) n n) none (some (.int .i64 (i : Int))) none).run Try.prog w = .ok (.slice (some ⟨b, 0, none⟩) i n) w := by
  have hz : (sizeOf (Try.prog.elem 25)).run Try.prog w = .ok 1 w := by kernel_rfl
  rw [run_slice_h w 25 (some ⟨b, 0, none⟩) n n Try.underlying25 .i64 (i : Int) (by omega) (by omega), hz]
  by_cases hn : n = 0
  · simp [Result.andThen, sliced, hn]
  · simp [Result.andThen, sliced, hn, Addr.add_lit]

set_option maxHeartbeats 1000000 in
theorem trim_any (b n : Nat) (f : Nat → Nat) (w : World) (hb : Blk w b 27 n f) (hn : n ≤ 1048576) : Calls Try.prog 30 #[.slice (some ⟨b, 0, none⟩) n n] w (RetNorm w b n f) := by
  go_enter Try.func30, Try.ntmps30
  go_wp2
  go_loop [3] (fun is => ∃ i : Nat, i ≤ n ∧ is = .int .i64 (i : Int) ∧ Hid (∀ j, i ≤ j → j < n → f j = 0)) (fun is => (intOf is).toNat)
  case atStart => exact ⟨n, Nat.le_refl _, rfl, fun j h1 h2 => absurd h2 (by omega)⟩
  case round =>
    obtain ⟨i, hi, rfl, hz⟩ := hrel
    have hs := sl25_to b n i hi
    cases i with
    | zero =>
      have hd : decide ((0 : Int) < ((0 : Nat) : Int)) = false := decide_eq_false (by omega)
      go_wp2
      go_ret
      exact ⟨0, rfl, ⟨Nat.zero_le _, hz.out, .inl rfl⟩, rfl⟩
    | succ j =>
      have c1 := hb.cell (show j < n by omega)
      have e1 : ((j + 1 : Nat) : Int) - 1 = (j : Int) := by omega
      by_cases hf : f j = 0
      · rw [hf] at c1
        have HZ : Hid (∀ t, j ≤ t → t < n → f t = 0) := by
          intro t h1 h2
          by_cases h3 : t = j
          · rw [h3]; exact hf
          · exact hz.out t (by omega) h2
        clear hz hf hb
        go_wp2
        go_round
        case rel => exact ⟨j, by omega, by go_num, HZ⟩
        case measure => simp [intOf]
      · have hne : (((f j : Nat) : Int) == 0) = false := by simp; omega
        have HN : Hid (Norm n f (j + 1)) := ⟨hi, hz.out, .inr (by rw [Nat.add_sub_cancel]; exact hf)⟩
        clear hz hf hb
        go_wp2
        go_ret
        exact ⟨j + 1, rfl, HN.out, rfl⟩

/-! ### Bit lengths -/
def Bl (v k : Nat) : Prop := v < 2 ^ k ∧ (k = 0 ∨ 2 ^ (k - 1) ≤ v)
def RetBl (w : World) (v : Nat) (e : Ending) (w' : World) : Prop := ∃ k : Nat, e = .returned (.int .i64 (k : Int)) ∧ k ≤ 64 ∧ Bl v k ∧ w' = w

theorem bl_le {v k : Nat} (hv : v < 2 ^ 64) (h : k = 0 ∨ 2 ^ (k - 1) ≤ v) : k ≤ 64 := by
  by_cases hc : k ≤ 64
  · exact hc
  · rcases h with h | h
    · omega
    · have : 2 ^ 64 ≤ 2 ^ (k - 1) := Nat.pow_le_pow_right (by omega) (by omega)
      omega

set_option maxHeartbeats 400000 in
theorem bitLen64_any (v : Nat) (hv : Hid (v < 2 ^ 64)) (w : World) : Calls Try.prog 39 #[.int .u64 (v : Int)] w (RetBl w v) := by
  go_enter Try.func39, Try.ntmps39
  go_wp2
  go_loop [0, 3] (fun vs ks => ∃ k u : Nat, vs = .int .u64 (u : Int) ∧ ks = .int .i64 (k : Int) ∧ k ≤ 64 ∧ Hid (u = v / 2 ^ k ∧ (k = 0 ∨ 2 ^ (k - 1) ≤ v))) (fun vs _ => (intOf vs).toNat)
  case atStart => exact ⟨0, v, rfl, rfl, by omega, by rw [Nat.pow_zero, Nat.div_one], .inl rfl⟩
  case round =>
    obtain ⟨k, u, rfl, rfl, hk, hu⟩ := hrel
    by_cases h0 : u = 0
    · have HB : Hid (Bl v k) := by
        refine ⟨?_, hu.out.2⟩
        have h1 := hu.out.1
        rw [h0] at h1
        have h2 := (Nat.div_eq_zero_iff).1 h1.symm
        have := Nat.two_pow_pos k
        omega
      subst h0
      go_wp2
      go_ret
      exact ⟨k, rfl, hk, HB.out, rfl⟩
    · have hne : ((u : Int) != 0) = true := by simp; omega
      have hle : 2 ^ k ≤ v := by
        by_cases h : 2 ^ k ≤ v
        · exact h
        · have h1 := hu.out.1
          rw [Nat.div_eq_of_lt (by omega)] at h1
          omega
      have HK : Hid (u / 2 = v / 2 ^ (k + 1) ∧ (k + 1 = 0 ∨ 2 ^ (k + 1 - 1) ≤ v)) := by
        refine ⟨?_, .inr (by rw [Nat.add_sub_cancel]; exact hle)⟩
        rw [hu.out.1, Nat.div_div_eq_div_mul, ← Nat.pow_succ]
      have hk1 : k + 1 ≤ 64 := bl_le hv.out HK.out.2
      clear hle
      go_wp2
      go_round
      case rel => exact ⟨k + 1, u / 2, by go_num, by go_num, hk1, HK⟩
      case measure => simp [intOf]; omega

def RetBls (w : World) (X len : Nat) (e : Ending) (w' : World) : Prop := ∃ k : Nat, e = .returned (.int .i64 (k : Int)) ∧ k ≤ 64 * len ∧ X < 2 ^ k ∧ w' = w

theorem num_bl {len k bl : Nat} {x : Nat → Nat} (hk : k < len) (hz : ∀ j, k + 1 ≤ j → j < len → x j = 0) (hx : ∀ j, j < len → x j < 2 ^ 64) (hb : x k < 2 ^ bl) : num len x < 2 ^ (64 * k + bl) := by
  rw [num_norm (show k + 1 ≤ len by omega) hz, num, Nat.pow_add]
  have h1 := num_lt k x (fun j hj => hx j (by omega))
  have h2 : 2 ^ (64 * k) * (x k + 1) ≤ 2 ^ (64 * k) * 2 ^ bl := Nat.mul_le_mul_left _ hb
  rw [Nat.mul_add, Nat.mul_one] at h2
  omega

set_option maxHeartbeats 1000000 in
theorem bitLenWords_any (xa : Option Addr) (len cap : Nat) (x : Nat → Nat) (w : World) {T : Nat → Prop} (h : Rd T w xa len x) (hlen : len ≤ 1024) (hx : Hid (∀ j, j < len → x j < 2 ^ 64)) : Calls Try.prog 26 #[.slice xa len cap] w (RetBls w (num len x) len) := by
  go_enter Try.func26, Try.ntmps26
  go_wp2_with fail
  go_loop [3] (fun is => ∃ k : Nat, is = .int .i64 ((k : Int) - 1) ∧ k ≤ len ∧ Hid (∀ j, k ≤ j → j < len → x j = 0)) (fun is => (intOf is + 1).toNat)
  case atStart => exact ⟨len, rfl, Nat.le_refl _, fun j h1 h2 => absurd h2 (by omega)⟩
  case round =>
    obtain ⟨k, rfl, hk, hz⟩ := hrel
    cases k with
    | zero =>
      have HE : Hid (num len x < 2 ^ 0) := by
        rw [num_norm (Nat.zero_le _) hz.out, num]
        show (0 : Nat) < 2 ^ 0
        decide
      go_wp2_with fail
      go_ret
      exact ⟨0, rfl, by omega, HE.out, rfl⟩
    | succ j =>
      rw [show ((j + 1 : Nat) : Int) - 1 = (j : Int) by omega]
      rcases h with h | ⟨b, o, rfl, hS, hc⟩
      · omega
      have c1 := hc j (by omega)
      by_cases h0 : x j = 0
      · rw [h0] at c1
        have HZ : Hid (∀ t, j ≤ t → t < len → x t = 0) := by
          intro t h1 h2
          by_cases h3 : t = j
          · rw [h3]; exact h0
          · exact hz.out t (by omega) h2
        clear hz h0 hc
        go_wp2_with fail
        go_round
        case rel => exact ⟨j, by go_num, by omega, HZ⟩
        case measure => simp [intOf]
      · have hne : (((x j : Nat) : Int) != 0) = true := by simp; omega
        have hxj : Hid (x j < 2 ^ 64) := hx.out j (by omega)
        have HZ : Hid (∀ t, j + 1 ≤ t → t < len → x t = 0) := hz.out
        clear hz h0 hc
        go_wp2_with fail
        refine (bitLen64_any (x j) hxj w).mono ?_
        rintro e w' ⟨bl, rfl, hbl, hB, hw'⟩
        obtain rfl := hw'.symm
        have HE : Hid (num len x < 2 ^ (64 * j + bl)) := num_bl (by omega) HZ.out hx.out hB.1
        clear hB
        go_wp2_with fail
        go_ret
        exact ⟨64 * j + bl, ret_int (by omega), by omega, HE.out, rfl⟩

/-! ### The widest piece -/
def RetWm (w : World) (m : Nat) (e : Ending) (w' : World) : Prop := ∃ k : Nat, e = .returned (.int .i64 (k : Int)) ∧ k ≤ 31 ∧ 2 * k + m ≤ 65 ∧ w' = w

theorem bl_pow {m k : Nat} (hm : 1 ≤ m) (h : Bl (2 ^ (m - 1)) k) : k = m := by
  obtain ⟨h1, h2⟩ := h
  have h3 : m - 1 < k := by
    by_cases hc : m - 1 < k
    · exact hc
    · have : 2 ^ k ≤ 2 ^ (m - 1) := Nat.pow_le_pow_right (by omega) (by omega)
      omega
  have h4 : k - 1 ≤ m - 1 := by
    rcases h2 with h2 | h2
    · omega
    · by_cases hc : k - 1 ≤ m - 1
      · exact hc
      · have : 2 ^ (m - 1) < 2 ^ (k - 1) := Nat.pow_lt_pow_right (by omega) (by omega)
        omega
  omega

set_option maxHeartbeats 1000000 in
theorem wmax_any (n m H : Nat) (hm : Hid (n = 2 ^ m)) (hH : Hid (H = 2 ^ (m - 1))) (hd : (n : Int) / 2 = (H : Int)) (hH2 : H ≤ 2048) (hm1 : 1 ≤ m) (hm2 : m ≤ 12) (w : World) : Calls Try.prog 25 #[.int .i64 (n : Int)] w (RetWm w m) := by
  have hHw : Hid (H < 2 ^ 64) := Nat.lt_of_le_of_lt hH2 (by decide)
  go_enter Try.func25, Try.ntmps25
  go_wp2_with fail
  refine (bitLen64_any H hHw w).mono ?_
  rintro e w' ⟨k, rfl, hk, hB, hw'⟩
  obtain rfl := hw'.symm
  have hkm : k = m := bl_pow hm1 (by rw [← hH.out]; exact hB)
  subst hkm
  clear hB hd
  by_cases h3 : 31 < (65 - k) / 2
  · go_wp2_with fail
    go_ret
    exact ⟨31, rfl, by omega, by omega, rfl⟩
  · go_wp2_with fail
    go_ret
    exact ⟨(65 - k) / 2, ret_int (by omega), by omega, by omega, rfl⟩

end Go.Proofs.Qxb6003749a
