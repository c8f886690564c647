/-
  slices.Reverse (61) of a part of a row.
-/
import Derived.Test.Qxb6003749aTransf
namespace Go.Proofs.Qxb6003749a
open Go.RowKit Go.Deep

/-- The k outermost pairs of [o, o + n) have changed places. -/
def revP (o n k : Nat) (g : Nat → Nat) (i : Nat) : Nat := if o ≤ i ∧ i < o + n ∧ (i - o < k ∨ n ≤ i - o + k) then g (o + (n - 1 - (i - o))) else g i

theorem revP_mid {o n k i : Nat} {g : Nat → Nat} (h1 : k ≤ i - o) (h2 : i - o + k < n) : revP o n k g i = g i := by
  unfold revP
  rw [if_neg (by omega)]

theorem revP_step {w wr : World} {b N o n k J : Nat} {g : Nat → Nat} (hJ : k + J + 1 = n) (hk : k < J) (hb : Blk wr b 27 N (revP o n k g)) (hg : w.grownBy wr (some b)) :
    Blk ((wr.setCell ⟨b, o + k, none⟩ (.int .u64 ((g (o + J) : Nat) : Int))).setCell ⟨b, o + J, none⟩ (.int .u64 ((g (o + k) : Nat) : Int))) b 27 N (revP o n (k + 1) g) ∧
    w.grownBy ((wr.setCell ⟨b, o + k, none⟩ (.int .u64 ((g (o + J) : Nat) : Int))).setCell ⟨b, o + J, none⟩ (.int .u64 ((g (o + k) : Nat) : Int))) (some b) := by
  refine ⟨((hb.set _ _).set _ _).congr fun i hi => ?_, grown_set (grown_set hg _ _) _ _⟩
  unfold revP
  by_cases h1 : i = o + J
  · subst h1
    rw [if_pos rfl, if_pos (by omega)]
    congr 1
    omega
  · rw [if_neg h1]
    by_cases h2 : i = o + k
    · subst h2
      rw [if_pos rfl, if_pos (by omega)]
      congr 1
      omega
    · rw [if_neg h2]
      by_cases h3 : o ≤ i ∧ i < o + n ∧ (i - o < k ∨ n ≤ i - o + k)
      · rw [if_pos h3, if_pos (by omega)]
      · rw [if_neg h3, if_neg (by omega)]

/-- The whole part, reversed. -/
def revA (o n : Nat) (g : Nat → Nat) (i : Nat) : Nat := if o ≤ i ∧ i < o + n then g (o + (n - 1 - (i - o))) else g i

theorem revP_end {o n k : Nat} {g : Nat → Nat} (hk : n ≤ 2 * k + 1) (i : Nat) : revP o n k g i = revA o n g i := by
  unfold revP revA
  by_cases h : o ≤ i ∧ i < o + n
  · rw [if_pos h]
    by_cases h2 : i - o < k ∨ n ≤ i - o + k
    · rw [if_pos ⟨h.1, h.2, h2⟩]
    · rw [if_neg (fun hh => h2 hh.2.2)]
      congr 1
      omega
  · rw [if_neg h, if_neg (fun hh => h ⟨hh.1, hh.2.1⟩)]

set_option maxHeartbeats 2000000 in
theorem reverse_any (b N o n c : Nat) (g : Nat → Nat) (w : World) (hb0 : Blk w b 27 N g) (ho : o + n ≤ N) (hN : N ≤ 1048576) (hn1 : 1 ≤ n) : Calls Try.prog 61 #[.slice (some ⟨b, o, none⟩) n c] w (Wrote w b 27 N (revA o n g)) := by
  go_enter Try.func61, Try.ntmps61
  go_wp2
  go_loopw [2, 3] (fun is js wr => ∃ k : Nat, 2 * k ≤ n ∧ is = .int .i64 (k : Int) ∧ js = .int .i64 ((n : Int) - 1 - (k : Int)) ∧ Blk wr b 27 N (revP o n k g) ∧ w.grownBy wr (some b)) (fun is _ _ => n - (intOf is).toNat)
  case atStart => exact ⟨0, by omega, rfl, by go_num, hb0.congr (fun i hi => by unfold revP; rw [if_neg (by omega)]), grown_refl _ _⟩
  case round =>
    obtain ⟨k, hk, rfl, rfl, hb, hgr⟩ := hrel
    by_cases hlt : 2 * k + 1 < n
    · obtain ⟨J, hJ⟩ : ∃ J, k + J + 1 = n := ⟨n - 1 - k, by omega⟩
      have hkJ : k < J := by omega
      rw [show (n : Int) - 1 - (k : Int) = (J : Int) by omega]
      have c1 := hb.cell (j := o + k) (by omega)
      rw [revP_mid (by omega) (by omega)] at c1
      have c2 := hb.cell (j := o + J) (by omega)
      rw [revP_mid (by omega) (by omega)] at c2
      have f1 := hb.free (o + k)
      have f2 := hb.free (o + J)
      have HR : Hid _ := revP_step hJ hkJ hb hgr
      have HJ : Hid (k + J + 1 = n) := hJ
      have hJn : J < n := by omega
      clear hb hgr hb0 hJ
      go_wp2
      go_region
      all_goals go_wp2
      all_goals go_roundw
      case rel => exact ⟨k + 1, by omega, by go_num, by have := HJ.out; go_num, HR.out.1, grown_drew HR.out.2⟩
      case measure => simp [intOf]; omega
    · have HE : Hid (Blk wr b 27 N (revA o n g)) := hb.congr (fun i _ => revP_end (by omega) i)
      clear hb
      go_wp2
      go_end0
      exact ⟨rfl, HE.out, hgr⟩

end Go.Proofs.Qxb6003749a
