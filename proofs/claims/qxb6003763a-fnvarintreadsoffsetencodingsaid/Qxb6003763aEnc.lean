/-
  THE PLAIN LAWS OF THE OFFSET ENCODING. No Go in sight; nothing is imported.
-/
namespace Go.Proofs.Qxb6003763a

/-! ### Reading: the number of the first i bytes, all of them with the top bit set -/
def uAt (f : Nat → Nat) : Nat → Nat
  | 0 => 0
  | i + 1 => 128 * uAt f i + f i % 128 + 1

/-- The greatest that i such bytes give. -/
def gAt : Nat → Nat
  | 0 => 0
  | i + 1 => 128 * gAt i + 128

theorem uAt_le (f : Nat → Nat) (i : Nat) : uAt f i ≤ gAt i := by
  induction i with
  | zero => exact Nat.le_refl _
  | succ i ih =>
    rw [uAt, gAt]
    have := Nat.mod_lt (f i) (show 0 < 128 by omega)
    omega

theorem gAt_mono (i : Nat) : gAt i ≤ gAt (i + 1) := by
  rw [gAt]
  omega

theorem gAt_le {i j : Nat} (h : i ≤ j) : gAt i ≤ gAt j := by
  obtain ⟨d, rfl⟩ := Nat.exists_eq_add_of_le h
  induction d with
  | zero => exact Nat.le_refl _
  | succ d ih => exact Nat.le_trans (ih (by omega)) (gAt_mono _)

theorem uAt_mono (f : Nat → Nat) (i : Nat) : uAt f i ≤ uAt f (i + 1) := by
  rw [uAt]
  omega

theorem uAt_congr {f g : Nat → Nat} (i : Nat) (h : ∀ j, j < i → f j = g j) : uAt f i = uAt g i := by
  induction i with
  | zero => rfl
  | succ i ih => rw [uAt, uAt, ih (fun j hj => h j (by omega)), h i (by omega)]

theorem uAt_pos (f : Nat → Nat) (i : Nat) (h : 0 < i) : 0 < uAt f i := by
  cases i with
  | zero => omega
  | succ i => rw [uAt]; omega

/-! ### Writing: what is left behind each byte, and the bytes, the last first -/
/-- What is left ahead of byte t of the reversed writing. -/
def left (n : Nat) : Nat → Nat
  | 0 => n
  | 1 => n / 128
  | t + 2 => (left n (t + 1) - 1) / 128

/-- Byte t of the reversed writing. -/
def rev (n : Nat) : Nat → Nat
  | 0 => n % 128
  | t + 1 => 128 + (left n (t + 1) - 1) % 128

theorem rev_lt (n t : Nat) : rev n t < 256 := by
  cases t with
  | zero => rw [rev]; omega
  | succ t => rw [rev]; omega

theorem rev_high (n t : Nat) (h : 1 ≤ t) : 128 ≤ rev n t := by
  cases t with
  | zero => omega
  | succ t => rw [rev]; omega

theorem rev_low (n : Nat) : rev n 0 < 128 := by rw [rev]; omega

/-- n is written in k bytes. -/
structure Takes (n k : Nat) : Prop where
  pos : 1 ≤ k
  zero : left n k = 0
  more : ∀ t, 1 ≤ t → t < k → left n t ≠ 0

/-- Reading what was written. -/
theorem read_back {n k : Nat} (hT : Takes n k) {f : Nat → Nat} (hf : ∀ j, j < k → f j = rev n (k - 1 - j)) (j : Nat) (hj : j < k) : uAt f j = left n (k - j) := by
  induction j with
  | zero => rw [uAt, Nat.sub_zero, hT.zero]
  | succ j ih =>
    rw [uAt, ih (by omega), hf j (by omega)]
    obtain ⟨t, ht⟩ : ∃ t, k - 1 - j = t + 1 := ⟨k - 1 - j - 1, by omega⟩
    have e1 : k - (j + 1) = t + 1 := by omega
    have e2 : k - j = t + 2 := by omega
    rw [ht, e1, e2, rev, left]
    have hne := hT.more (t + 1) (by omega) (by omega)
    have h1 : (128 + (left n (t + 1) - 1) % 128) % 128 = (left n (t + 1) - 1) % 128 := by omega
    rw [h1]
    generalize left n (t + 1) = L at *
    omega

/-- The whole number. -/
theorem read_whole {n k : Nat} (hT : Takes n k) {f : Nat → Nat} (hf : ∀ j, j < k → f j = rev n (k - 1 - j)) : 128 * uAt f (k - 1) + f (k - 1) % 128 = n := by
  have hp := hT.pos
  rw [read_back hT hf (k - 1) (by omega), hf (k - 1) (by omega), Nat.sub_self, show k - (k - 1) = 1 by omega, rev, left]
  omega

theorem left_bound (n : Nat) (t d : Nat) (h : left n (t + 1) ≤ gAt d) : left n (t + 1 + d) ≤ gAt 0 := by
  induction d generalizing t with
  | zero => exact h
  | succ d ih =>
    have h2 : left n (t + 1 + 1) ≤ gAt d := by
      rw [left]
      rw [gAt] at h
      generalize left n (t + 1) = L at *
      omega
    have := ih (t + 1) h2
    rw [show t + 1 + (d + 1) = t + 1 + 1 + d by omega]
    exact this

/-- The same bytes, the same number: what varint accepts is what would be written. -/
theorem write_back {f : Nat → Nat} {i : Nat} (hb : ∀ j, j ≤ i → f j < 256) (hh : ∀ j, j < i → 128 ≤ f j) (hl : f i < 128) :
    Takes (128 * uAt f i + f i) (i + 1) ∧ ∀ j, j < i + 1 → f j = rev (128 * uAt f i + f i) (i - j) := by
  have hleft : ∀ t, t ≤ i → left (128 * uAt f i + f i) (t + 1) = uAt f (i - t) := by
    intro t ht
    induction t with
    | zero => rw [left, Nat.sub_zero]; omega
    | succ t ih =>
      rw [left, ih (by omega)]
      obtain ⟨s, hs⟩ : ∃ s, i - t = s + 1 := ⟨i - t - 1, by omega⟩
      rw [hs, uAt, show i - (t + 1) = s by omega]
      have := Nat.mod_lt (f s) (show 0 < 128 by omega)
      omega
  refine ⟨⟨by omega, by rw [hleft i (Nat.le_refl _), Nat.sub_self]; rfl, fun t h1 h2 => ?_⟩, fun j hj => ?_⟩
  · obtain ⟨s, rfl⟩ : ∃ s, t = s + 1 := ⟨t - 1, by omega⟩
    rw [hleft s (by omega)]
    have := uAt_pos f (i - s) (by omega)
    omega
  · by_cases hc : j = i
    · subst hc
      rw [Nat.sub_self, rev]
      omega
    · obtain ⟨s, hs⟩ : ∃ s, i - j = s + 1 := ⟨i - j - 1, by omega⟩
      rw [hs, rev, hleft s (by omega)]
      have e : i - s = j + 1 := by omega
      rw [e, uAt, Nat.add_sub_cancel]
      have h1 := hb j (by omega)
      have h2 := hh j (by omega)
      omega

/-- How many bytes are the least: eight bytes at least before the number passes 2^55. -/
theorem gAt_seven : 128 * gAt 6 + 127 < 36028797018963968 := by decide
theorem gAt_eight : 36028797018963968 ≤ gAt 8 := by decide

end Go.Proofs.Qxb6003763a
