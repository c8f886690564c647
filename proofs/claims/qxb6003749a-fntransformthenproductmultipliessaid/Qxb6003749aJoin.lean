/-
  ZZSplit (9), join (35), ZZJoin (10).
-/
import Derived.Test.Qxb6003749aSplit
import Derived.RegionTactic
import Derived.ChangeAlike
namespace Go.Proofs.Qxb6003749a
open Go.RowKit Go.Deep

theorem zzSplit_any (ba na : Nat) (f0 : Nat → Nat) (xa : Option Addr) (n cap : Nat) (f : Nat → Nat) (wd : Nat) (w : World) (ha : Blk w ba 27 na f0) {S : Nat → Prop} (h : Rd S w xa n f) (hna : na ≤ 1048576) (hn : n ≤ 1048576) (hw1 : 1 ≤ wd) (hw : wd ≤ 63)
    (hf : Hid (∀ j, j < n → f j < 2 ^ 64)) :
    Calls Try.prog 9 #[.slice (some ⟨ba, 0, none⟩) na na, .slice xa n cap, .int .i64 (wd : Int)] w (Wrote w ba 27 na (splitOut n f wd f0)) := by
  go_enter Try.func9, Try.ntmps9
  go_wp2_with fail
  refine (words xa n cap f w h hn).mono ?_
  rintro e w1 ⟨b, rfl, hb, hblk, hg⟩
  have hbl := ha.lt
  go_wp2_with fail
  refine (split_any ba na f0 (some ⟨b, 0, none⟩) n n f wd w1 (ha.kept hg (by intro h; cases h)) (hblk.rd (by omega)) hna hn hw1 hw hf).mono ?_
  rintro e w2 ⟨rfl, hblk2, hg2⟩
  go_wp2
  go_end0
  exact ⟨rfl, hblk2, grown_trans (grown_any hg) hg2⟩

/-! ### join -/
def pcAt (wd nc : Nat) (c : Nat → Nat) (i : Nat) : Nat := sumAt wd nc c i % 2 ^ wd

theorem pc_int (wd nc : Nat) (c : Nat → Nat) (i : Nat) (hw : wd ≤ 63) (h : sumAt wd nc c i < 2 ^ 64) :
    bits BinOp.and IntKind.u64 ((sumAt wd nc c i : Nat) : Int) (IntKind.u64.wrap (IntKind.u64.wrap ((2 : Int) ^ wd) - 1)) = ((pcAt wd nc c i : Nat) : Int) := by
  rw [mask_int wd hw, bits_and_u64_nat _ _ (lt64 h) (by have := pow_le_64 hw; omega), Nat.and_two_pow_sub_one_eq_mod]
  rfl

theorem sum_int (wd nc : Nat) (c : Nat → Nat) (i : Nat) (hi : i < nc) (h : sumAt wd nc c i < 2 ^ 64) :
    IntKind.u64.wrap (((carryAt wd nc c i : Nat) : Int) + ((c i : Nat) : Int)) = ((sumAt wd nc c i : Nat) : Int) := by
  have h1 : sumAt wd nc c i < 18446744073709551616 := h
  rw [sumAt, if_pos hi] at h1 ⊢
  rw [IntKind.wrap_u64]
  omega

theorem pc_lt (wd nc : Nat) (c : Nat → Nat) (i : Nat) (hw : wd ≤ 63) : pcAt wd nc c i < 2 ^ 63 :=
  Nat.lt_of_lt_of_le (Nat.mod_lt _ (Nat.two_pow_pos _)) (Nat.pow_le_pow_right (by omega) hw)

theorem z_lt (wd nc : Nat) (c : Nat → Nat) (i j : Nat) : zAt wd nc c i j < 2 ^ 64 := Nat.mod_lt _ (Nat.two_pow_pos _)

theorem or1_int (wd nc : Nat) (c : Nat → Nat) (i : Nat) :
    bits BinOp.or IntKind.u64 ((zAt wd nc c i (i * wd / 64) : Nat) : Int) (IntKind.u64.wrap (((pcAt wd nc c i : Nat) : Int) * 2 ^ (i * wd % 64))) = ((zAt wd nc c (i + 1) (i * wd / 64) : Nat) : Int) := by
  have e1 : IntKind.u64.wrap (((pcAt wd nc c i : Nat) : Int) * 2 ^ (i * wd % 64)) = ((pcAt wd nc c i * 2 ^ (i * wd % 64) % 2 ^ 64 : Nat) : Int) := by
    rw [IntKind.wrap_u64, two_pow_cast]; simp
  rw [e1, bits_or_u64_nat _ _ (lt64 (z_lt _ _ _ _ _)) (lt64 (Nat.mod_lt _ (Nat.two_pow_pos _))), zAt_same]
  rfl

theorem or2_int (wd nc : Nat) (c : Nat → Nat) (i : Nat) (hw : wd ≤ 63) :
    bits BinOp.or IntKind.u64 ((zAt wd nc c i (i * wd / 64 + 1) : Nat) : Int) (((pcAt wd nc c i : Nat) : Int) / 2 ^ (64 - i * wd % 64)) = ((zAt wd nc c (i + 1) (i * wd / 64 + 1) : Nat) : Int) := by
  have h1 := pc_lt wd nc c i hw
  rw [div_int, bits_or_u64_nat _ _ (lt64 (z_lt _ _ _ _ _)) (Nat.lt_of_le_of_lt (Nat.div_le_self _ _) (Nat.lt_trans h1 (by decide))), zAt_next _ _ _ _ hw]
  rfl

theorem shr_int (wd nc : Nat) (c : Nat → Nat) (i : Nat) : ((sumAt wd nc c i : Nat) : Int) / 2 ^ wd = ((carryAt wd nc c (i + 1) : Nat) : Int) := by
  rw [div_int, carryAt_succ]

theorem join_step1 {w wr : World} {b wd nc m i : Nat} {c : Nat → Nat} (hw : wd ≤ 63) (hb : Blk wr b 61 m (fun j => zAt wd nc c i j)) (hg : w.grownBy wr none) (hw' : w.heap.size ≤ b) (hc : ¬ (64 < i * wd % 64 + wd ∧ i * wd / 64 + 1 < m)) :
    Blk (wr.setCell ⟨b, i * wd / 64, none⟩ (.int .u64 ((zAt wd nc c (i + 1) (i * wd / 64) : Nat) : Int))) b 61 m (fun j => zAt wd nc c (i + 1) j) ∧
    w.grownBy (wr.setCell ⟨b, i * wd / 64, none⟩ (.int .u64 ((zAt wd nc c (i + 1) (i * wd / 64) : Nat) : Int))) none := by
  refine ⟨(hb.set _ _).congr fun j hj => ?_, grown_new (grown_set (grown_any hg) _ _) hw'⟩
  by_cases h1 : j = i * wd / 64
  · subst h1; simp
  · rw [if_neg h1, zAt_other wd nc c i j hw h1 (fun h => hc ⟨h.1, by omega⟩)]

theorem join_step2 {w wr : World} {b wd nc m i : Nat} {c : Nat → Nat} (hw : wd ≤ 63) (hb : Blk wr b 61 m (fun j => zAt wd nc c i j)) (hg : w.grownBy wr none) (hw' : w.heap.size ≤ b) :
    Blk ((wr.setCell ⟨b, i * wd / 64, none⟩ (.int .u64 ((zAt wd nc c (i + 1) (i * wd / 64) : Nat) : Int))).setCell ⟨b, i * wd / 64 + 1, none⟩ (.int .u64 ((zAt wd nc c (i + 1) (i * wd / 64 + 1) : Nat) : Int))) b 61 m (fun j => zAt wd nc c (i + 1) j) ∧
    w.grownBy ((wr.setCell ⟨b, i * wd / 64, none⟩ (.int .u64 ((zAt wd nc c (i + 1) (i * wd / 64) : Nat) : Int))).setCell ⟨b, i * wd / 64 + 1, none⟩ (.int .u64 ((zAt wd nc c (i + 1) (i * wd / 64 + 1) : Nat) : Int))) none := by
  refine ⟨((hb.set _ _).set _ _).congr fun j hj => ?_, grown_new (grown_set (grown_set (grown_any hg) _ _) _ _) hw'⟩
  by_cases h1 : j = i * wd / 64 + 1
  · subst h1; simp
  · by_cases h2 : j = i * wd / 64
    · subst h2; simp
    · rw [if_neg h1, if_neg h2, zAt_other wd nc c i j hw h2 (fun h => h1 h.2)]

theorem mul_bd' {i wd m : Nat} (hi : i ≤ 64 * m) (hm : m ≤ 1048576) (hw : wd ≤ 63) : (i : Int) * (wd : Int) ≤ 4294967296 := by
  have : i * wd ≤ (64 * 1048576) * 63 := Nat.mul_le_mul (by omega) hw
  have h2 : ((i * wd : Nat) : Int) ≤ 4294967296 := by omega
  simpa using h2

set_option maxHeartbeats 1000000 in
theorem join_any (ba nc : Nat) (c : Nat → Nat) (wd m : Nat) (w : World) (ha : Blk w ba 27 nc c) (hnc : nc ≤ 1048576) (hm : m ≤ 1048576) (hw1 : 1 ≤ wd) (hw : wd ≤ 63)
    (hov : Hid (∀ i, i * wd / 64 < m → sumAt wd nc c i < 2 ^ 64)) :
    Calls Try.prog 35 #[.slice (some ⟨ba, 0, none⟩) nc nc, .int .i64 (wd : Int), .int .i64 (m : Int)] w (RetNew w 61 m (fun j => csum wd nc c nc / 2 ^ (64 * j) % 2 ^ 64)) := by
  have hmk := mk44 m hm
  go_enter Try.func35, Try.ntmps35
  go_wp2
  clear hmk
  go_loopw [9, 10] (fun cv iv wr => ∃ i : Nat, i ≤ 64 * m ∧ iv = .int .i64 i ∧ cv = .int .u64 ((carryAt wd nc c i : Nat) : Int) ∧ Blk wr w.heap.size 61 m (fun j => zAt wd nc c i j) ∧ w.grownBy wr none) (fun _ iv _ => 64 * m - (intOf iv).toNat)
  case atStart => exact ⟨0, Nat.zero_le _, rfl, by simp [carryAt, csum], (blk_alloc w 61 m _).congr (fun j _ => by simp [zAt, csum]), grown_alloc _ _ _⟩
  case round =>
    obtain ⟨i, hi, rfl, rfl, hb, hg⟩ := hrel
    have hm0 := mul_nn i wd
    have hm1 := mul_bd' hi hm hw
    have hil : i ≤ i * wd := Nat.le_mul_of_pos_right i hw1
    by_cases hkm : m ≤ i * wd / 64
    · have HR : Hid (Blk wr w.heap.size 61 m (fun j => csum wd nc c nc / 2 ^ (64 * j) % 2 ^ 64)) := hb.congr (fun j hj => zAt_end wd nc c m i j hj hkm)
      clear hb
      by_cases hic : i < nc
      · have hci : wr.cell? ⟨ba, i, none⟩ = some (.int .u64 ((c i : Nat) : Int)) := (ha.kept hg (by intro e; cases e)).cell hic
        go_wp2
        go_ret
        exact ⟨_, rfl, Nat.le_refl _, HR.out, hg⟩
      · go_wp2
        go_ret
        exact ⟨_, rfl, Nat.le_refl _, HR.out, hg⟩
    · have hkm' : i * wd / 64 < m := by omega
      have hz := hb.cell hkm'
      have hfz := hb.free (i * wd / 64)
      have hS := hov.out i hkm'
      have hp := pc_int wd nc c i hw hS
      have ho := or1_int wd nc c i
      have hsh := shr_int wd nc c i
      by_cases hic : i < nc
      · have hci : wr.cell? ⟨ba, i, none⟩ = some (.int .u64 ((c i : Nat) : Int)) := (ha.kept hg (by intro e; cases e)).cell hic
        have hs := sum_int wd nc c i hic hS
        clear hS
        by_cases hc1 : 64 < i * wd % 64 + wd
        · by_cases hc2 : i * wd / 64 + 1 < m
          · have hz2 := hb.cell hc2
            have hfz2 := hb.free (i * wd / 64 + 1)
            have hq := or2_int wd nc c i hw
            have HR : Hid _ := join_step2 hw hb hg (Nat.le_refl _)
            clear hb hg ha
            go_wp2
            go_region
            all_goals go_wp2
            all_goals go_region
            all_goals go_wp2
            all_goals go_roundw
            case rel => exact ⟨i + 1, by omega, by go_num, rfl, HR.out.1, grown_drew (grown_drew HR.out.2)⟩
            case measure => simp [intOf]; omega
          · have HR : Hid _ := join_step1 hw hb hg (Nat.le_refl _) (fun h => hc2 h.2)
            clear hb hg ha
            go_wp2
            go_region
            all_goals go_wp2
            all_goals go_roundw
            case rel => exact ⟨i + 1, by omega, by go_num, rfl, HR.out.1, grown_drew HR.out.2⟩
            case measure => simp [intOf]; omega
        · have HR : Hid _ := join_step1 hw hb hg (Nat.le_refl _) (fun h => hc1 h.1)
          clear hb hg ha
          go_wp2
          go_region
          all_goals go_wp2
          all_goals go_roundw
          case rel => exact ⟨i + 1, by omega, by go_num, rfl, HR.out.1, grown_drew HR.out.2⟩
          case measure => simp [intOf]; omega
      · have hs0 : carryAt wd nc c i = sumAt wd nc c i := by rw [sumAt, if_neg hic]; rfl
        rw [hs0]
        clear hS hs0
        by_cases hc1 : 64 < i * wd % 64 + wd
        · by_cases hc2 : i * wd / 64 + 1 < m
          · have hz2 := hb.cell hc2
            have hfz2 := hb.free (i * wd / 64 + 1)
            have hq := or2_int wd nc c i hw
            have HR : Hid _ := join_step2 hw hb hg (Nat.le_refl _)
            clear hb hg ha
            go_wp2
            go_region
            all_goals go_wp2
            all_goals go_region
            all_goals go_wp2
            all_goals go_roundw
            case rel => exact ⟨i + 1, by omega, by go_num, rfl, HR.out.1, grown_drew (grown_drew HR.out.2)⟩
            case measure => simp [intOf]; omega
          · have HR : Hid _ := join_step1 hw hb hg (Nat.le_refl _) (fun h => hc2 h.2)
            clear hb hg ha
            go_wp2
            go_region
            all_goals go_wp2
            all_goals go_roundw
            case rel => exact ⟨i + 1, by omega, by go_num, rfl, HR.out.1, grown_drew HR.out.2⟩
            case measure => simp [intOf]; omega
        · have HR : Hid _ := join_step1 hw hb hg (Nat.le_refl _) (fun h => hc1 h.1)
          clear hb hg ha
          go_wp2
          go_region
          all_goals go_wp2
          all_goals go_roundw
          case rel => exact ⟨i + 1, by omega, by go_num, rfl, HR.out.1, grown_drew HR.out.2⟩
          case measure => simp [intOf]; omega

/-- ZZJoin: the words of the sum, in a new row. -/
theorem zzJoin_any (ba nc : Nat) (c : Nat → Nat) (wd m : Nat) (w : World) (ha : Blk w ba 27 nc c) (hnc : nc ≤ 1048576) (hm : m ≤ 1048576) (hw1 : 1 ≤ wd) (hw : wd ≤ 63)
    (hov : Hid (∀ i, i * wd / 64 < m → sumAt wd nc c i < 2 ^ 64)) :
    Calls Try.prog 10 #[.slice (some ⟨ba, 0, none⟩) nc nc, .int .i64 (wd : Int), .int .i64 (m : Int)] w (RetNew w 28 m (fun j => csum wd nc c nc / 2 ^ (64 * j) % 2 ^ 64)) := by
  go_enter Try.func10, Try.ntmps10
  go_wp2_with fail
  refine (join_any ba nc c wd m w ha hnc hm hw1 hw hov).mono ?_
  rintro e w1 ⟨b, rfl, hb, hblk, hg⟩
  go_wp2_with fail
  refine (uints (some ⟨b, 0, none⟩) m m _ w1 (S := fun _ => True) (hblk.rd trivial) hm).mono ?_
  rintro e w2 ⟨b2, rfl, hb2, hblk2, hg2⟩
  go_wp2
  go_ret
  exact ⟨_, rfl, Nat.le_trans hg.size hb2, hblk2, grown_trans hg hg2⟩

end Go.Proofs.Qxb6003749a
