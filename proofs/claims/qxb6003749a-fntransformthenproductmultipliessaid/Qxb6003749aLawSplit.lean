/-
  THE LAW FnSplitThenJoinRestores (3): its walk.
-/
import Derived.Test.Qxb6003749aJoin
import Derived.Deep.QuietTactic
import Derived.BigQuiet
namespace Go.Proofs.Qxb6003749a
open Go.RowKit Go.Deep

/-- A true law. -/
def Holds (w : World) (e : Ending) (w' : World) : Prop := e = .returned (.bool true) ∧ w.grownBy w' none

theorem wrap_pow (wd : Nat) (hw : wd ≤ 63) : IntKind.u64.wrap ((2 : Int) ^ wd) = ((2 ^ wd : Nat) : Int) := by
  have h1 := pow_le_64 hw
  rw [IntKind.wrap_u64, two_pow_cast]
  generalize 2 ^ wd = m at *
  omega

/-! ### The plain law: pieces, joined, are the words again -/
theorem N_at {n wd N : Nat} (hw1 : 1 ≤ wd) (hN : N = (64 * n + wd - 1) / wd) {k : Nat} (hk : k < N) : k * wd / 64 < n := by
  have h1 : k + 1 ≤ (64 * n + wd - 1) / wd := by omega
  have h2 : (k + 1) * wd ≤ 64 * n + wd - 1 := (Nat.le_div_iff_mul_le (by omega)).1 h1
  rw [Nat.succ_mul] at h2
  omega

theorem N_all {n wd N : Nat} (hw1 : 1 ≤ wd) (hN : N = (64 * n + wd - 1) / wd) : 64 * n ≤ N * wd := by
  have h2 : 64 * n + wd - 1 < (N + 1) * wd := by
    rw [hN]
    exact Nat.lt_mul_of_div_lt (Nat.lt_succ_self _) (by omega)
  have h3 : (N + 1) * wd = N * wd + wd := Nat.succ_mul N wd
  omega

theorem N_le {n wd N : Nat} (hw1 : 1 ≤ wd) (hn : n ≤ 1024) (hN : N = (64 * n + wd - 1) / wd) : N ≤ 65536 := by
  have h : (64 * n + wd - 1) / wd * wd ≤ 64 * n + wd - 1 := Nat.div_mul_le_self _ _
  rw [← hN] at h
  by_cases hc : N ≤ 65536
  · exact hc
  · have h3 : (65536 + 1) * wd ≤ N * wd := Nat.mul_le_mul_right _ (by omega)
    rw [Nat.succ_mul] at h3
    omega

theorem split_piece {n wd N : Nat} {f : Nat → Nat} (hw1 : 1 ≤ wd) (hN : N = (64 * n + wd - 1) / wd) (i : Nat) (hi : i < N) : splitOut n f wd (fun _ => 0) i = num n f / 2 ^ (i * wd) % 2 ^ wd := by
  rw [splitOut, if_pos (N_at hw1 hN hi)]
  rfl

theorem split_small {n wd N : Nat} {f : Nat → Nat} (hw1 : 1 ≤ wd) (hw : wd ≤ 63) (hN : N = (64 * n + wd - 1) / wd) (i : Nat) (hi : i < N) : ((splitOut n f wd (fun _ => 0) i : Nat) : Int) < IntKind.u64.wrap ((2 : Int) ^ wd) := by
  have h := piece_lt n f wd i
  rw [wrap_pow wd hw, split_piece hw1 hN i hi]
  exact Int.ofNat_lt.2 h

theorem split_over {n wd N : Nat} {f : Nat → Nat} (hw1 : 1 ≤ wd) (hw : wd ≤ 63) (hN : N = (64 * n + wd - 1) / wd) : ∀ i, i * wd / 64 < n → sumAt wd N (splitOut n f wd (fun _ => 0)) i < 2 ^ 64 := by
  intro i hi
  have hiN : i < N := by
    by_cases h : i < N
    · exact h
    · have h1 := N_all hw1 hN
      have h2 : N * wd ≤ i * wd := Nat.mul_le_mul_right _ (by omega)
      omega
  rw [sumAt, carry_pieces wd N (num n f) _ (fun i hi => split_piece hw1 hN i hi) i (by omega), if_pos hiN, split_piece hw1 hN i hiN, Nat.zero_add]
  exact Nat.lt_of_lt_of_le (Nat.mod_lt _ (Nat.two_pow_pos _)) (Nat.pow_le_pow_right (by omega) (by omega))

theorem split_back {n wd N : Nat} {f : Nat → Nat} (hw1 : 1 ≤ wd) (hf : ∀ j, j < n → f j < 2 ^ 64) (hN : N = (64 * n + wd - 1) / wd) (j : Nat) (hj : j < n) : csum wd N (splitOut n f wd (fun _ => 0)) N / 2 ^ (64 * j) % 2 ^ 64 = f j := by
  rw [csum_pieces wd N (num n f) _ (fun i hi => split_piece hw1 hN i hi) N (Nat.le_refl _)]
  have h1 : num n f < 2 ^ (N * wd) := Nat.lt_of_lt_of_le (num_lt n f hf) (Nat.pow_le_pow_right (by omega) (N_all hw1 hN))
  rw [Nat.mod_eq_of_lt h1, num_word n f hf j hj]

set_option maxHeartbeats 1000000 in
theorem splitJoin_main (a : Option Addr) (n cap wd N : Nat) (f : Nat → Nat) (w : World) {S : Nat → Prop} (h : Rd S w a n f) (h0 : a = none → n = 0) (hn : n ≤ 1024) (hw1 : 1 ≤ wd) (hw : wd ≤ 63) (hN : Hid (N = (64 * n + wd - 1) / wd))
    (hf : Hid (∀ j, j < n → f j < 2 ^ 64)) :
    Calls Try.prog 3 #[.slice a n cap, .int .i64 (wd : Int)] w (Holds w) := by
  have hN1 : N ≤ 65536 := N_le hw1 hn hN.out
  have hN2 : (64 * (n : Int) + (wd : Int) - 1) / (wd : Int) = (N : Int) := by
    rw [show (64 * (n : Int) + (wd : Int) - 1) = ((64 * n + wd - 1 : Nat) : Int) by omega, hN.out]
    simp
  have hmk := mk25 N (by omega)
  go_enter Try.func3, Try.ntmps3
  go_wp2_with (first | (go_at_call 8; refine (cloneUint a n cap f w h (by omega) h0).mono ?_; rintro e w1 ⟨xa, xc, rfl, hx, hg1⟩) | (go_at_call 7; go_in))
  have hA : Blk (w1.alloc (.cells (rowOf N fun _ => 0) 27)) w1.heap.size 27 N (fun _ => 0) := blk_alloc w1 27 N _
  have hgA := grown_alloc w1 (.cells (rowOf N fun _ => 0) 27) none
  have hx2 := hx.keptNew hgA
  refine (zzSplit_any w1.heap.size N _ xa n xc f wd _ hA hx2 (by omega) (by omega) hw1 hw hf).mono ?_
  rintro e w2 ⟨rfl, hB2, hg2⟩
  have hx3 : Rd (fun b => w.heap.size ≤ b ∧ b ≠ w1.heap.size) w2 xa n f := by
    refine Rd.kept (Rd.keptNew (hx.mono (S' := fun b => w.heap.size ≤ b ∧ b ≠ w1.heap.size) ?_) hgA) hg2 ?_
    · intro b hb hS
      exact ⟨hS, by omega⟩
    · intro r hr hS
      obtain rfl := Option.some.inj hr
      exact hS.2 rfl
  clear hx2 hx hA hmk
  go_wp2
  go_loop [7] (fun i => ∃ k : Nat, k ≤ N ∧ i = .int .i64 k) (fun i => N - (intOf i).toNat)
  case atStart => exact ⟨0, Nat.zero_le _, rfl⟩
  case round =>
    obtain ⟨k, hk, rfl⟩ := hrel
    by_cases hlt : k < N
    · have hc := hB2.cell hlt
      have hsm := split_small (f := f) hw1 hw hN.out k hlt
      go_wp2
      go_round
      case rel => exact ⟨k + 1, by omega, by go_num⟩
      case measure => simp [intOf]; omega
    · go_wp2_with fail
      refine (zzJoin_any w1.heap.size N _ wd n w2 hB2 (by omega) (by omega) hw1 hw (split_over hw1 hw hN.out)).mono ?_
      rintro e w3 ⟨bz, rfl, hbz, hZ, hg3⟩
      have HB : Hid _ := split_back (f := f) hw1 hf.out hN.out
      have hZ' : Blk w3 bz 28 n f := hZ.congr (fun j hj => HB.out j hj)
      have hx4 := hx3.keptNew hg3
      have hgw : w.grownBy w3 none := grown_trans hg1 (grown_trans (grown_new (grown_trans (grown_any hgA) hg2) (Nat.le_refl _)) hg3)
      clear hZ hx3 hB2 hg3 hg2 hgA hg1 HB
      go_wp2
      go_loopw [9] (fun i wr => ∃ k : Nat, k ≤ n ∧ i = .int .i64 k ∧ Blk wr bz 28 n f ∧ Rd (fun b => w.heap.size ≤ b ∧ b ≠ w1.heap.size) wr xa n f ∧ w.grownBy wr none) (fun i _ => n - (intOf i).toNat)
      case atStart => exact ⟨0, Nat.zero_le _, rfl, hZ', hx4, hgw⟩
      case round =>
        obtain ⟨j, hj, rfl, hz, hx, hg⟩ := hrel
        by_cases hjn : j < n
        · rcases hx with hx | ⟨b, o, rfl, hS, hc⟩
          · omega
          have hc1 := hc j hjn
          have hc2 := hz.cell hjn
          have HR : Hid (Blk wr bz 28 n f ∧ Rd (fun b => w.heap.size ≤ b ∧ b ≠ w1.heap.size) wr (some ⟨b, o, none⟩) n f ∧ w.grownBy wr none) := ⟨hz, .inr ⟨b, o, rfl, hS, hc⟩, hg⟩
          clear hz hg hc hx4 hgw hZ'
          go_wp2
          go_region
          all_goals go_wp2
          all_goals go_roundw
          case rel => exact ⟨j + 1, by omega, by go_num, HR.out.1, HR.out.2.1, grown_drew HR.out.2.2⟩
          case measure => simp [intOf]; omega
        · go_wp2
          go_ret
          exact ⟨rfl, hg⟩

end Go.Proofs.Qxb6003749a
