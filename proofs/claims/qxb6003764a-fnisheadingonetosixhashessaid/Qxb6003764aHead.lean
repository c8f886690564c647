/-
  isHeading (22), ZZIsHeading (18), walked.
-/
import Derived.Test.Qxb6003764aMem
import Derived.WalkSpells
namespace Go.Proofs.Qxb6003764a
open Go.RowKit

/-- k hashes, then the end, a blank or a tab. -/
def Good (f : Nat → Nat) (n k : Nat) : Prop := k ≤ n ∧ (∀ j, j < k → f j = 35) ∧ (k = n ∨ f k = 32 ∨ f k = 9)
/-- Some number of hashes from one up to below m serves. -/
def GoodBelow (f : Nat → Nat) (n m : Nat) : Prop := ∃ k, 1 ≤ k ∧ k < m ∧ Good f n k

def RetHead (w : World) (f : Nat → Nat) (n : Nat) (e : Ending) (w' : World) : Prop := ∃ g : Bool, e = .returned (.bool g) ∧ (g = true ↔ GoodBelow f n 7) ∧ w' = w

/-- k is the whole run of hashes at the start. -/
def Run (f : Nat → Nat) (n k : Nat) : Prop := k ≤ n ∧ (∀ j, j < k → f j = 35) ∧ (k < n → f k ≠ 35)

theorem Run.only {f : Nat → Nat} {n k m : Nat} (h : Run f n k) : GoodBelow f n m ↔ 1 ≤ k ∧ k < m ∧ (k = n ∨ f k = 32 ∨ f k = 9) := by
  constructor
  · rintro ⟨k', h1, h2, h3, h4, h5⟩
    have hk : k' = k := by
      by_cases c1 : k' < k
      · have := h.2.1 k' c1
        have := h.1
        omega
      · by_cases c2 : k < k'
        · exact absurd (h4 k c2) (h.2.2 (by omega))
        · omega
    subst hk
    exact ⟨h1, h2, h5⟩
  · rintro ⟨h1, h2, h3⟩
    exact ⟨k, h1, h2, h.1, h.2.1, h3⟩

theorem Run.yes {f : Nat → Nat} {n k m : Nat} (h : Run f n k) (h1 : 1 ≤ k) (h2 : k < m) (h3 : k = n ∨ f k = 32 ∨ f k = 9) : (true = true ↔ GoodBelow f n m) := ⟨fun _ => h.only.mpr ⟨h1, h2, h3⟩, fun _ => rfl⟩
theorem Run.no {f : Nat → Nat} {n k m : Nat} (h : Run f n k) (h3 : ¬(1 ≤ k ∧ k < m ∧ (k = n ∨ f k = 32 ∨ f k = 9))) : (false = true ↔ GoodBelow f n m) := ⟨fun e => (by cases e), fun e => absurd (h.only.mp e) h3⟩

set_option maxHeartbeats 1000000 in
theorem isHeading_any (a : Option Addr) (n cap : Nat) (f : Nat → Nat) (w : World) {S : Nat → Prop} (h : Rd S w a n f) (hn : n ≤ 1048576) : Calls Try.prog 22 #[.slice a n cap] w (RetHead w f n) := by
  go_enter Try.func22, Try.ntmps22
  go_wp2
  go_loop [3] (fun ks => ∃ k : Nat, ks = .int .i64 (k : Int) ∧ k ≤ n ∧ Hid (∀ j, j < k → f j = 35)) (fun ks => n - (intOf ks).toNat)
  case atStart => exact ⟨0, rfl, Nat.zero_le _, fun j hj => absurd hj (by omega)⟩
  case round =>
    obtain ⟨k, rfl, hk, hI⟩ := hrel
    by_cases hlt : k < n
    · rcases h with h | ⟨b, o, rfl, hS, hc⟩
      · omega
      have c1 := hc k hlt
      clear hc
      by_cases h35 : f k = 35
      · have HN : Hid (∀ j, j < k + 1 → f j = 35) := fun j hj => by
          by_cases e : j = k
          · rw [e]; exact h35
          · exact hI.out j (by omega)
        rw [h35] at c1
        clear h35
        go_wp2
        go_round
        case rel => exact ⟨k + 1, by go_num, by omega, HN⟩
        case measure => simp [intOf]; omega
      · have HR : Hid (Run f n k) := ⟨hk, hI.out, fun _ => h35⟩
        have e35 : ¬ ((f k : Nat) : Int) = 35 := by omega
        clear h35
        by_cases g1 : k < 1
        · go_wp2
          go_ret
          exact ⟨false, rfl, HR.out.no (by omega), rfl⟩
        by_cases g2 : 6 < k
        · go_wp2
          go_ret
          exact ⟨false, rfl, HR.out.no (by omega), rfl⟩
        by_cases g3 : f k = 32
        · rw [g3] at c1
          have g3 : Hid (f k = 32) := g3
          go_wp2
          go_ret
          exact ⟨true, rfl, HR.out.yes (by omega) (by omega) (.inr (.inl g3.out)), rfl⟩
        by_cases g4 : f k = 9
        · rw [g4] at c1
          have g4 : Hid (f k = 9) := g4
          go_wp2
          go_ret
          exact ⟨true, rfl, HR.out.yes (by omega) (by omega) (.inr (.inr g4.out)), rfl⟩
        · have e32 : (((f k : Nat) : Int) == 32) = false := beq_false_of_ne (by omega)
          have e9 : (((f k : Nat) : Int) == 9) = false := beq_false_of_ne (by omega)
          have en : ((k : Int) == (n : Int)) = false := beq_false_of_ne (by omega)
          have HN : Hid (¬(1 ≤ k ∧ k < 7 ∧ (k = n ∨ f k = 32 ∨ f k = 9))) := by show ¬ _; omega
          clear g3 g4
          go_wp2
          go_ret
          exact ⟨false, rfl, HR.out.no HN.out, rfl⟩
    · have hkn : k = n := by omega
      subst hkn
      have HR : Hid (Run f k k) := ⟨hk, hI.out, fun e => absurd e (by omega)⟩
      by_cases g1 : k < 1
      · go_wp2
        go_ret
        exact ⟨false, rfl, HR.out.no (by omega), rfl⟩
      by_cases g2 : 6 < k
      · go_wp2
        go_ret
        exact ⟨false, rfl, HR.out.no (by omega), rfl⟩
      · go_wp2
        go_ret
        exact ⟨true, rfl, HR.out.yes (by omega) (by omega) (.inl rfl), rfl⟩

theorem zzIsHeading_any (a : Option Addr) (n cap : Nat) (f : Nat → Nat) (w : World) {S : Nat → Prop} (h : Rd S w a n f) (hn : n ≤ 1048576) : Calls Try.prog 18 #[.slice a n cap] w (RetHead w f n) := by
  go_enter Try.func18, Try.ntmps18
  go_wp2_with fail
  refine (isHeading_any a n cap f w h hn).mono ?_
  rintro e w' ⟨g, rfl, hs, hw'⟩
  obtain rfl := hw'.symm
  have HS : Hid _ := hs
  clear hs
  go_wp2_with fail
  go_ret
  exact ⟨g, rfl, HS.out, rfl⟩

end Go.Proofs.Qxb6003764a
