/-
  THE LAW FnForwardEvaluatesAtBitReversedRoots (4): its walk.
-/
import Derived.Test.Qxb6003749aSmall
import Derived.Deep.RegionHeld3
namespace Go.Proofs.Qxb6003749a
open Go.RowKit Go.Deep

/-- A true law: nothing that was there has turned. -/
def LawTrue (w : World) (e : Ending) (w' : World) : Prop := e = .returned (.bool true) ∧ w.grownBy w' none

/-- Horner's rule, with k coefficients left. -/
def Horner (f : Nat → Nat) (x : Int) (n k : Nat) (v : Int) : Prop := Cg (psum (seen 0 f) x k + x ^ k * v) (psum (seen 0 f) x n)

theorem horner_start (f : Nat → Nat) (x : Int) (n : Nat) : Horner f x n n 0 := Cg.of_eq (by rw [Int.mul_zero, Int.add_zero])
theorem horner_step {f : Nat → Nat} {x : Int} {n j : Nat} {v v1 a1 v2 : Int} (h : Horner f x n (j + 1) v) (h1 : Cg v1 (v * x)) (h2 : Cg a1 ((f j : Nat) : Int)) (h3 : Cg v2 (v1 + a1)) : Horner f x n j v2 := by
  unfold Horner at *
  have e : seen 0 f j = ((f j : Nat) : Int) := by unfold seen; rw [Nat.zero_add]
  refine Cg.trans ((Cg.refl _).add ((Cg.refl _).mul (h3.trans (h1.add h2)))) (Cg.trans (Cg.of_eq ?_) h)
  rw [psum, e, Int.mul_add, Int.pow_succ, Int.mul_comm v x, Int.mul_assoc, Int.mul_comm _ ((f j : Nat) : Int)]
  omega
theorem horner_end {f : Nat → Nat} {x : Int} {n : Nat} {v : Int} (h : Horner f x n 0 v) : Cg v (psum (seen 0 f) x n) := by
  unfold Horner at h
  rw [psum, Int.pow_zero, Int.zero_add, Int.one_mul] at h
  exact h

theorem zero_seen (f : Nat → Nat) : seen 0 f = fun i => ((f i : Nat) : Int) := by
  funext i
  unfold seen
  rw [Nat.zero_add]

/-- The two ways of evaluating give the same. -/
theorem fwd_law {m n N i : Nat} {S x : Int} {om r1 v : Nat} {q f g' : Nat → Nat} (hm : n = 2 ^ m) (hm7 : m ≤ 32) (hS : Cg S ((7 : Int) ^ eOf m)) (hL : Levels m 0 S q) (hE : FwdEnd m q 0 n N f g') (hi : i < n)
    (hom : Cg (om : Int) ((7 : Int) ^ eOf m)) (hx : Cg x ((om : Int) ^ revK i m)) (hv : Cg (v : Int) (psum (seen 0 f) x n)) (hr : Cg (r1 : Int) ((g' i : Nat) : Int)) (hr1 : r1 < pP) (hvp : v < pP) : r1 = v := by
  refine Cg.nat ?_ hr1 hvp
  refine hr.trans (Cg.trans ?_ hv.symm)
  have h1 := hE.val i hi
  have e1 : seen 0 g' i = ((g' i : Nat) : Int) := by unfold seen; rw [Nat.zero_add]
  rw [e1] at h1
  refine h1.trans ?_
  have h2 := ev_any m _ _ (tab_ev hm7 hS hL) (seen 0 f) i (by omega)
  refine h2.trans ?_
  rw [← hm]
  refine psum_cg _ _ _ _ _ fun j _ => (Cg.refl _).mul (Cg.pow ?_ j)
  show Cg ((S ^ (2 ^ (m - m))) ^ revK i m) x
  rw [Nat.sub_self, Nat.pow_zero, Int.pow_succ, Int.pow_zero, Int.one_mul]
  exact ((hS.trans hom.symm).pow _).trans hx.symm

theorem quo_eOf {n m : Nat} (hm : n = 2 ^ m) : (18446744069414584320 : Int) / (n : Int) = ((eOf m : Nat) : Int) := by
  unfold eOf
  rw [hm]
  simp

set_option maxHeartbeats 4000000 in
theorem fwdLaw_main (a : Addr) (n cap m : Nat) (f : Nat → Nat) (w : World) {T : Nat → Prop} (h : Rd T w (some a) n f) (hm : Hid (n = 2 ^ m)) (hm7 : m ≤ 20) (hn1 : 1 ≤ n) (hn : n ≤ 128) (hp2 : Hid (n &&& (n - 1) = 0)) (hf : Hid (∀ j, j < n → Wd (f j))) :
    Calls Try.prog 4 #[.slice (some a) n cap] w (LawTrue w) := by
  have hE := quo_eOf hm.out
  obtain ⟨E, hEe⟩ : ∃ E, E = eOf m := ⟨_, rfl⟩
  rw [← hEe] at hE
  have HE : Hid (E = eOf m) := hEe
  have hEw : Wd E := by rw [hEe]; exact eOf_wd m
  clear hEe
  have h7 : Wd 7 := by unfold Wd; decide
  go_enter Try.func4, Try.ntmps4
  go_wp2_with (first | (go_at_call 11; go_in) | (go_at_call 12; refine (isPow2_yes n hn1 (by omega) hp2.out _).mono ?_; rintro e w' ⟨rfl, hw'⟩; obtain rfl := hw'.symm))
  refine (cloneU64 a n cap f w h (by omega)).mono ?_
  rintro e w1 ⟨ba, rfl, hba, hA1, hg1⟩
  go_wp2_with fail
  refine (log2_any n m hm hm7 (by omega) w1).mono ?_
  rintro e w' ⟨rfl, hw'⟩
  obtain rfl := hw'.symm
  go_wp2_with fail
  refine (pow_any 7 E h7 hEw w1).mono ?_
  rintro e w' ⟨om, rfl, homp, homc, hw'⟩
  obtain rfl := hw'.symm
  have HOM : Hid (Cg (om : Int) ((7 : Int) ^ E)) := homc
  clear homc
  have homw := pP_wd homp
  go_wp2_with fail
  refine (zzRoots_any n m E hm hn1 (by omega) hE hEw w1).mono ?_
  rintro e w2 ⟨br, q0, Sx, rfl, hbr, hQ0, hqw0, hSx0, hLv0, hg2⟩
  have hQ2 := tabFix_blk hm.out hQ0
  have HQW : Hid _ := tabFix_wd (m := m) hqw0
  have HSX : Hid (Cg Sx ((7 : Int) ^ E)) := hSx0
  have HLV : Hid _ := tabFix_levels hLv0
  have HQ1 : Hid _ := tabFix_one hLv0
  clear hQ0 hqw0 hSx0 hLv0
  obtain ⟨q, hq⟩ : ∃ q, q = tabFix m q0 := ⟨_, rfl⟩
  rw [← hq] at hQ2 HQW HLV HQ1
  clear hq
  have hA2 := hA1.kept hg2 (by intro e; cases e)
  go_wp2_with fail
  refine (cloneU64 ⟨ba, 0, none⟩ n n f w2 (S := fun _ => True) (hA2.rd trivial) (by omega)).mono ?_
  rintro e w3 ⟨bb, rfl, hbb, hB3, hg3⟩
  have hA3 := hA2.kept hg3 (by intro e; cases e)
  have hQ3 := hQ2.kept hg3 (by intro e; cases e)
  have hne : br ≠ bb := by have := hQ2.lt; omega
  have hne2 : ba ≠ bb := by have := hA2.lt; omega
  go_wp2_with fail
  refine (zzForward_any bb n f br n n q m 0 n n w3 hm (by omega) (Nat.le_refl _) (by omega) (by omega) (Nat.le_refl _) (Nat.le_refl _) hB3 hQ3 hne hf HQW HQ1).mono ?_
  rintro e w4 ⟨g', rfl, hB4, hEnd, hg4⟩
  have HEND : Hid _ := hEnd
  clear hEnd
  have hA4 := hA3.kept hg4 (by intro e; exact hne2 (Option.some.inj e).symm)
  have hgw : w.grownBy w4 none := grown_trans hg1 (grown_trans hg2 (grown_new (grown_trans (grown_any hg3) hg4) hbb))
  have HGW : Hid (∀ i, i < n → Wd (g' i)) := HEND.out.els.wd
  clear hB3 hQ3 hA3 hQ2 hA2 hA1 hg1 hg2 hg3 hg4 hE h
  go_wp2_with fail
  go_loopw [8] (fun is wr => ∃ i : Nat, i ≤ n ∧ is = .int .i64 (i : Int) ∧ Blk wr ba 27 n f ∧ Blk wr bb 27 n g' ∧ w.grownBy wr none) (fun is _ => n - (intOf is).toNat)
  case atStart => exact ⟨0, Nat.zero_le _, rfl, hA4, hB4, hgw⟩
  case round =>
    clear hA4 hB4 hgw
    obtain ⟨i, hi, rfl, hA, hB, hgr⟩ := hrel
    by_cases hlt : i < n
    · have hrl : revK i m < 1048576 := Nat.lt_of_lt_of_le (revK_lt i m) (by have := hm.out; omega)
      have hrw : Wd (revK i m) := by unfold Wd; omega
      go_wp2_with fail
      refine (rev_any i m (by omega) hm7 wr).mono ?_
      rintro e w' ⟨rfl, hw'⟩
      obtain rfl := hw'.symm
      go_wp2_with fail
      refine (pow_any om (revK i m) homw hrw wr).mono ?_
      rintro e w' ⟨x, rfl, hxp, hxc, hw'⟩
      obtain rfl := hw'.symm
      have HX : Hid (Cg (x : Int) ((om : Int) ^ revK i m)) := hxc
      have hxw := pP_wd hxp
      clear hxc
      go_wp2_with fail
      go_loopw [10, 11] (fun vs ks wr => ∃ k v : Nat, k ≤ n ∧ ks = .int .i64 ((k : Int) - 1) ∧ vs = .int .u64 (v : Int) ∧ v < pP ∧ Hid (Horner f (x : Int) n k (v : Int)) ∧ Blk wr ba 27 n f ∧ Blk wr bb 27 n g' ∧ w.grownBy wr none) (fun _ ks _ => (intOf ks + 1).toNat)
      case atStart => exact ⟨n, 0, Nat.le_refl _, rfl, rfl, by decide, horner_start f _ n, hA, hB, hgr⟩
      case round =>
        clear hA hB hgr
        obtain ⟨k, v, hk, rfl, rfl, hvp, hHo, hA, hB, hgr⟩ := hrel
        have hvw := pP_wd hvp
        cases k with
        | zero =>
          have c1 := hB.cell hlt
          have w1' := HGW.out i hlt
          go_wp2_with fail
          refine (red_any (g' i) w1' wr).mono ?_
          rintro e w' ⟨r1, rfl, hr1, hr1c, hw'⟩
          obtain rfl := hw'.symm
          have heq : r1 = v := fwd_law hm.out (by omega) (by rw [← HE.out]; exact HSX.out) HLV.out HEND.out hlt (by rw [← HE.out]; exact HOM.out) HX.out (horner_end hHo.out) hr1c hr1 hvp
          subst heq
          clear hr1c
          go_wp2_with fail
          go_roundw
          case rel => exact ⟨i + 1, by omega, by go_num, hA, hB, hgr⟩
          case measure => simp [intOf]; omega
        | succ j =>
          rw [show ((j + 1 : Nat) : Int) - 1 = (j : Int) by omega]
          have c1 := hA.cell (show j < n by omega)
          have w1' := hf.out j (by omega)
          have hj0 : (0 : Int) ≤ (j : Int) := by omega
          have hjn : (j : Int) < (n : Int) := by omega
          go_wp2_with fail
          go_region_held3 (fun w' => w'.cell? ⟨ba, j, none⟩ = some (.int .u64 ((f j : Nat) : Int))) (exact c1) (first
            | (go_at_call 20; refine (mul_any v x hvw hxw _).mono ?_; rintro e w' ⟨v1, rfl, hv1, hv1c, hw'⟩; obtain rfl := hw'.symm)
            | (go_at_call 21; refine (red_any (f j) w1' _).mono ?_; rintro e w' ⟨a1, rfl, ha1, ha1c, hw'⟩; obtain rfl := hw'.symm)
            | (go_at_call 19; refine (add_any v1 a1 hv1 ha1 _).mono ?_; rintro e w' ⟨v2, rfl, hv2, hv2c, hw'⟩; obtain rfl := hw'.symm))
          have HH : Hid _ := horner_step hHo.out hv1c ha1c hv2c
          clear hv1c ha1c hv2c hHo
          go_wp2_with fail
          go_roundw
          case rel => exact ⟨j, v2, by omega, rfl, rfl, hv2, HH, hA, hB, grown_drew hgr⟩
          case measure => simp [intOf]
    · go_wp2_with fail
      go_ret
      exact ⟨rfl, hgr⟩

end Go.Proofs.Qxb6003749a
