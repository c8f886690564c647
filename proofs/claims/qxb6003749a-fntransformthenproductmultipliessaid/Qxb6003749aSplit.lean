/-
  split (32), ZZSplit (9): the pieces are laid into the row that comes in.
-/
import Derived.Test.Qxb6003749aClone
import Derived.Test.Qxb6003749aBits
import Derived.WalkSpells
namespace Go.Proofs.Qxb6003749a
open Go.RowKit Go.Deep

/-! ### The walk's spelling, as natural numbers -/
theorem two_pow_cast (n : Nat) : ((2 : Int) ^ n) = ((2 ^ n : Nat) : Int) := by simp

theorem pow_le_64 {n : Nat} (h : n ≤ 63) : 2 ^ n ≤ 9223372036854775808 := by
  have : 2 ^ n ≤ 2 ^ 63 := Nat.pow_le_pow_right (by omega) h
  exact this

theorem mask_int (wd : Nat) (hw : wd ≤ 63) : IntKind.u64.wrap (IntKind.u64.wrap ((2 : Int) ^ wd) - 1) = ((2 ^ wd - 1 : Nat) : Int) := by
  have h1 := pow_le_64 hw
  have h2 := Nat.two_pow_pos wd
  rw [IntKind.wrap_u64, IntKind.wrap_u64, two_pow_cast]
  generalize 2 ^ wd = m at *
  omega

theorem div_int (a s : Nat) : ((a : Int) / (2 : Int) ^ s) = ((a / 2 ^ s : Nat) : Int) := by rw [two_pow_cast]; simp

theorem lt64 {a : Nat} (h : a < 2 ^ 64) : a < 18446744073709551616 := h

theorem piece1_int (f : Nat → Nat) (wd k : Nat) (hw : wd ≤ 63) (hf : f (k * wd / 64) < 2 ^ 64) :
    bits BinOp.and IntKind.u64 (((f (k * wd / 64) : Nat) : Int) / 2 ^ (k * wd % 64)) (IntKind.u64.wrap (IntKind.u64.wrap ((2 : Int) ^ wd) - 1)) = ((piece1 f wd k : Nat) : Int) := by
  rw [mask_int wd hw, div_int, bits_and_u64_nat, Nat.and_two_pow_sub_one_eq_mod]
  · rfl
  · exact Nat.lt_of_le_of_lt (Nat.div_le_self _ _) (lt64 hf)
  · have := pow_le_64 hw; omega

theorem piece2_int (f : Nat → Nat) (wd k : Nat) (hw : wd ≤ 63) (hf : f (k * wd / 64) < 2 ^ 64) :
    bits BinOp.and IntKind.u64 (bits BinOp.or IntKind.u64 (((f (k * wd / 64) : Nat) : Int) / 2 ^ (k * wd % 64)) (IntKind.u64.wrap (((f (k * wd / 64 + 1) : Nat) : Int) * 2 ^ (64 - k * wd % 64)))) (IntKind.u64.wrap (IntKind.u64.wrap ((2 : Int) ^ wd) - 1)) = ((piece2 f wd k : Nat) : Int) := by
  have e1 : IntKind.u64.wrap (((f (k * wd / 64 + 1) : Nat) : Int) * 2 ^ (64 - k * wd % 64)) = ((f (k * wd / 64 + 1) * 2 ^ (64 - k * wd % 64) % 2 ^ 64 : Nat) : Int) := by
    rw [IntKind.wrap_u64, two_pow_cast]; simp
  have h1 : f (k * wd / 64) / 2 ^ (k * wd % 64) < 2 ^ 64 := Nat.lt_of_le_of_lt (Nat.div_le_self _ _) hf
  have h2 : f (k * wd / 64 + 1) * 2 ^ (64 - k * wd % 64) % 2 ^ 64 < 2 ^ 64 := Nat.mod_lt _ (by decide)
  rw [mask_int wd hw, div_int, e1, bits_or_u64_nat _ _ (lt64 h1) (lt64 h2), bits_and_u64_nat, Nat.and_two_pow_sub_one_eq_mod]
  · rfl
  · exact lt64 (Nat.or_lt_two_pow h1 h2)
  · have := pow_le_64 hw; omega

/-! ### split -/
/-- What stands in the row behind split: pieces as far as the words go. -/
def splitOut (n : Nat) (f : Nat → Nat) (wd : Nat) (f0 : Nat → Nat) (i : Nat) : Nat := if i * wd / 64 < n then piece n f wd i else f0 i

/-- Nothing comes back; the row of n words at block b holds f; nothing else that was there has turned. -/
def Wrote (w : World) (b : Nat) (t : TypeId) (n : Nat) (f : Nat → Nat) (e : Ending) (w' : World) : Prop := e = .returned (.tuple #[]) ∧ Blk w' b t n f ∧ w.grownBy w' (some b)

theorem split_step {w wr : World} {b n k : Nat} {g f0 : Nat → Nat} (hb : Blk wr b 27 n (fun j => if j < k then g j else f0 j)) (hg : w.grownBy wr (some b)) :
    Blk (wr.setCell ⟨b, k, none⟩ (.int .u64 ((g k : Nat) : Int))) b 27 n (fun j => if j < k + 1 then g j else f0 j) ∧ w.grownBy (wr.setCell ⟨b, k, none⟩ (.int .u64 ((g k : Nat) : Int))) (some b) := by
  refine ⟨(hb.set k (g k)).congr fun j _ => ?_, grown_set hg k _⟩
  by_cases h1 : j = k
  · subst h1; simp
  · by_cases h2 : j < k
    · rw [if_neg h1, if_pos h2, if_pos (by omega)]
    · rw [if_neg h1, if_neg h2, if_neg (by omega)]

theorem mul_bd {k wd : Nat} (hk : k < 1048576) (hw : wd ≤ 63) : (k : Int) * (wd : Int) ≤ 67108864 := by
  have : k * wd ≤ 1048576 * 63 := Nat.mul_le_mul (by omega) hw
  have h2 : ((k * wd : Nat) : Int) ≤ 67108864 := by omega
  simpa using h2

theorem mul_nn (k wd : Nat) : (0 : Int) ≤ (k : Int) * (wd : Int) := by
  have : (0 : Int) ≤ ((k * wd : Nat) : Int) := by omega
  simpa using this

set_option maxHeartbeats 1000000 in
theorem split_any (ba na : Nat) (f0 : Nat → Nat) (xa : Option Addr) (n cap : Nat) (f : Nat → Nat) (wd : Nat) (w : World) (ha : Blk w ba 27 na f0) (h : Rd (fun b => b ≠ ba) w xa n f) (hna : na ≤ 1048576) (hn : n ≤ 1048576) (hw1 : 1 ≤ wd) (hw : wd ≤ 63)
    (hf : Hid (∀ j, j < n → f j < 2 ^ 64)) :
    Calls Try.prog 32 #[.slice (some ⟨ba, 0, none⟩) na na, .slice xa n cap, .int .i64 (wd : Int)] w (Wrote w ba 27 na (splitOut n f wd f0)) := by
  go_enter Try.func32, Try.ntmps32
  go_wp2
  go_loopw [17] (fun i wr => ∃ k : Nat, k ≤ na ∧ i = .int .i64 k ∧ Blk wr ba 27 na (fun j => if j < k then splitOut n f wd f0 j else f0 j) ∧ w.grownBy wr (some ba)) (fun i _ => na - (intOf i).toNat)
  case atStart => exact ⟨0, Nat.zero_le _, rfl, ha.congr (fun j _ => by simp), grown_refl _ _⟩
  case round =>
    obtain ⟨k, hk, rfl, hb, hg⟩ := hrel
    by_cases hlt : k < na
    · have hm0 := mul_nn k wd
      have hm1 := mul_bd (show k < 1048576 by omega) hw
      by_cases hkn : n ≤ k * wd / 64
      · have hend : Blk wr ba 27 na (splitOut n f wd f0) := hb.congr (fun j hj => by
          by_cases h1 : j < k
          · rw [if_pos h1]
          · rw [if_neg h1, splitOut, if_neg]
            have : k * wd ≤ j * wd := Nat.mul_le_mul_right _ (by omega)
            have := Nat.div_le_div_right (c := 64) this
            omega)
        clear hb
        go_wp2
        go_end0
        exact ⟨rfl, hend, hg⟩
      · rcases h with h | ⟨b, o, hax, hbB, hc⟩
        · omega
        subst hax
        have hcx : wr.cell? ⟨b, o + k * wd / 64, none⟩ = some (.int .u64 ((f (k * wd / 64) : Nat) : Int)) := cell_kept hg (fun e => hbB (Option.some.inj e).symm) (hc _ (by omega))
        have hz := hb.cell hlt
        have hfz := hb.free k
        have HR : Hid _ := split_step hb hg
        by_cases hc1 : 64 < k * wd % 64 + wd
        · by_cases hc2 : k * wd / 64 + 1 < n
          · have hcy : wr.cell? ⟨b, o + (k * wd / 64 + 1), none⟩ = some (.int .u64 ((f (k * wd / 64 + 1) : Nat) : Int)) := cell_kept hg (fun e => hbB (Option.some.inj e).symm) (hc _ hc2)
            have HE : Hid _ := piece2_int f wd k hw (hf.out _ (by omega))
            have HP : Hid (piece2 f wd k = splitOut n f wd f0 k) := by rw [piece2_eq n f hf.out wd k hw (by omega) hc1 hc2]; exact (if_pos (by omega)).symm
            clear hc hb hg
            go_wp2
            go_roundw
            case rel => exact ⟨k + 1, by omega, by go_num, by rw [HE.out, HP.out]; exact HR.out⟩
            case measure => simp [intOf]; omega
          · have HE : Hid _ := piece1_int f wd k hw (hf.out _ (by omega))
            have HP : Hid (piece1 f wd k = splitOut n f wd f0 k) := by rw [piece1_eq n f hf.out wd k hw (by omega) (by omega)]; exact (if_pos (by omega)).symm
            clear hc hb hg
            go_wp2
            go_roundw
            case rel => exact ⟨k + 1, by omega, by go_num, by rw [HE.out, HP.out]; exact HR.out⟩
            case measure => simp [intOf]; omega
        · have HE : Hid _ := piece1_int f wd k hw (hf.out _ (by omega))
          have HP : Hid (piece1 f wd k = splitOut n f wd f0 k) := by rw [piece1_eq n f hf.out wd k hw (by omega) (by omega)]; exact (if_pos (by omega)).symm
          clear hc hb hg
          go_wp2
          go_roundw
          case rel => exact ⟨k + 1, by omega, by go_num, by rw [HE.out, HP.out]; exact HR.out⟩
          case measure => simp [intOf]; omega
    · have hkn : k = na := by omega
      subst hkn
      go_wp2
      go_end0
      exact ⟨rfl, hb.congr (fun j hj => by simp [hj]), hg⟩

end Go.Proofs.Qxb6003749a
