/-
  varint (17), ZZvarint (10), walked.
-/
import Derived.Test.Qxb6003763aMem
import Derived.Test.Qxb6003763aEnc
import Derived.WalkSpells
namespace Go.Proofs.Qxb6003763a
open Go.RowKit

/-- What varint says of n bytes f. -/
def ReadSpec (f : Nat → Nat) (n v sz : Nat) : Prop :=
  (∃ i, i < n ∧ (∀ j, j < i → 128 ≤ f j) ∧ f i < 128 ∧ v = 128 * uAt f i + f i ∧ sz = i + 1 ∧ uAt f i ≤ 36028797018963968) ∨
  (v = 0 ∧ sz = 0 ∧ ((∃ i, i < n ∧ (∀ j, j ≤ i → 128 ≤ f j) ∧ 36028797018963968 ≤ 128 * uAt f i + f i % 128) ∨ ∀ j, j < n → 128 ≤ f j))

def RetRead (w : World) (f : Nat → Nat) (n : Nat) (e : Ending) (w' : World) : Prop :=
  ∃ v sz : Nat, e = .returned (.tuple #[.int .u64 (v : Int), .int .i64 (sz : Int)]) ∧ ReadSpec f n v sz ∧ w' = w

def low7 (c : Nat) : Nat := c % 128
theorem and127 (c : Nat) (h : c < 256) : bits .and .u8 (c : Int) 127 = ((low7 c : Nat) : Int) := by
  have : ∀ m, m < 256 → bits .and .u8 ((m : Nat) : Int) 127 = ((low7 m : Nat) : Int) := by decide +kernel
  exact this c h
theorem and128_lo (c : Nat) (h : c < 128) : bits .and .u8 (c : Int) 128 = 0 := by
  have : ∀ m, m < 128 → bits .and .u8 ((m : Nat) : Int) 128 = 0 := by decide +kernel
  exact this c h
theorem and128_hi (c : Nat) (h : 128 ≤ c) (h2 : c < 256) : bits .and .u8 (c : Int) 128 = 128 := by
  have : ∀ m, m < 256 → 128 ≤ m → bits .and .u8 ((m : Nat) : Int) 128 = 128 := by decide +kernel
  exact this c h2 h

/-- The number ahead of byte i, and with it. -/
def preV (f : Nat → Nat) (i : Nat) : Nat := 128 * uAt f i
def midV (f : Nat → Nat) (i : Nat) : Nat := 128 * uAt f i + f i % 128

set_option maxHeartbeats 1000000 in
theorem varint_any (a : Option Addr) (n cap : Nat) (f : Nat → Nat) (w : World) {S : Nat → Prop} (h : Rd S w a n f) (hn : n ≤ 4194304) (hf : Hid (∀ j, j < n → f j < 256)) : Calls Try.prog 17 #[.slice a n cap] w (RetRead w f n) := by
  go_enter Try.func17, Try.ntmps17
  go_wp2
  go_loop [2, 8] (fun vs is => ∃ i : Nat, is = .int .i64 (i : Int) ∧ vs = .int .u64 ((preV f i : Nat) : Int) ∧ i ≤ n ∧ Hid ((∀ j, j < i → 128 ≤ f j) ∧ uAt f i ≤ 36028797018963968)) (fun _ is => n - (intOf is).toNat)
  case atStart => exact ⟨0, rfl, rfl, Nat.zero_le _, fun j hj => absurd hj (by omega), Nat.zero_le _⟩
  case round =>
    obtain ⟨i, rfl, rfl, hi, hI⟩ := hrel
    by_cases hlt : i < n
    · rcases h with h | ⟨b, o, rfl, hS, hc⟩
      · omega
      have c1 := hc i hlt
      have hfi := hf.out i hlt
      have r1 := and127 (f i) hfi
      have hub := hI.out.2
      have r2 : IntKind.u64.wrap (((preV f i : Nat) : Int) + ((low7 (f i) : Nat) : Int)) = ((midV f i : Nat) : Int) := by
        rw [IntKind.wrap_u64]
        unfold preV low7 midV
        omega
      have r3 : IntKind.u64.wrap ((low7 (f i) : Nat) : Int) = ((low7 (f i) : Nat) : Int) := by
        rw [IntKind.wrap_u64]
        unfold low7
        omega
      clear hc
      by_cases hlo : f i < 128
      · have r4 := and128_lo (f i) hlo
        have HS : Hid (ReadSpec f n (midV f i) (i + 1)) := .inl ⟨i, hlt, hI.out.1, hlo, by unfold midV; omega, rfl, hub⟩
        clear hlo hfi hub
        go_wp2
        go_ret2
        exact ⟨midV f i, i + 1, rfl, HS.out, rfl⟩
      · have r4 := and128_hi (f i) (by omega) hfi
        by_cases hbig : 36028797018963968 ≤ midV f i
        · have r5 : decide ((36028797018963968 : Int) ≤ ((midV f i : Nat) : Int)) = true := decide_eq_true (by omega)
          have HS : Hid (ReadSpec f n 0 0) := .inr ⟨rfl, rfl, .inl ⟨i, hlt, fun j hj => by
            by_cases hc : j = i
            · rw [hc]; omega
            · exact hI.out.1 j (by omega), hbig⟩⟩
          clear hlo hfi hub hbig
          go_wp2
          go_ret2
          exact ⟨0, 0, rfl, HS.out, rfl⟩
        · have r5 : decide ((36028797018963968 : Int) ≤ ((midV f i : Nat) : Int)) = false := decide_eq_false (by omega)
          have HN : Hid ((∀ j, j < i + 1 → 128 ≤ f j) ∧ uAt f (i + 1) ≤ 36028797018963968) := by
            refine ⟨fun j hj => ?_, by rw [uAt]; unfold midV at hbig; omega⟩
            by_cases hc : j = i
            · rw [hc]; omega
            · exact hI.out.1 j (by omega)
          have r6 : IntKind.u64.wrap (IntKind.u64.wrap (((midV f i : Nat) : Int) + 1) * 128) = ((preV f (i + 1) : Nat) : Int) := by
            rw [IntKind.wrap_u64, IntKind.wrap_u64]
            unfold midV at *
            unfold preV
            rw [uAt]
            omega
          clear hlo hfi hub hbig
          go_wp2
          go_round
          case rel => exact ⟨i + 1, by go_num, rfl, by omega, HN⟩
          case measure => simp [intOf]; omega
    · have HS : Hid (ReadSpec f n 0 0) := .inr ⟨rfl, rfl, .inr fun j hj => hI.out.1 j (by omega)⟩
      go_wp2
      go_ret2
      exact ⟨0, 0, rfl, HS.out, rfl⟩

theorem zzvarint_any (a : Option Addr) (n cap : Nat) (f : Nat → Nat) (w : World) {S : Nat → Prop} (h : Rd S w a n f) (hn : n ≤ 4194304) (hf : Hid (∀ j, j < n → f j < 256)) : Calls Try.prog 10 #[.slice a n cap] w (RetRead w f n) := by
  go_enter Try.func10, Try.ntmps10
  go_wp2_with fail
  refine (varint_any a n cap f w h hn hf).mono ?_
  rintro e w' ⟨v, sz, rfl, hs, hw'⟩
  obtain rfl := hw'.symm
  have HS : Hid _ := hs
  clear hs
  go_wp2_with fail
  go_ret2
  exact ⟨v, sz, rfl, HS.out, rfl⟩

end Go.Proofs.Qxb6003763a
