/-
  THE LAW FnBackwardUndoesForward (5): its walk.
-/
import Derived.Test.Qxb6003749aLawFwd
import Derived.Test.Qxb6003749aBwdBig
namespace Go.Proofs.Qxb6003749a
open Go.RowKit Go.Deep

/-- Backward behind forward. -/
theorem bwd_law {m n N i J : Nat} {S : Int} {r1 v : Nat} {q f g' g'' : Nat → Nat} (hm : n = 2 ^ m) (hm7 : m ≤ 32) (hS : Cg S ((7 : Int) ^ eOf m)) (hL : Levels m 0 S q) (hF : FwdEnd m q 0 n N f g') (hB : BwdEnd m q 0 n N g' g'') (hi : i < n) (hJ : J = (n - i) % n)
    (hr : Cg (r1 : Int) ((g'' i : Nat) : Int)) (hv : Cg (v : Int) ((n : Int) * ((f J : Nat) : Int))) (hr1 : r1 < pP) (hvp : v < pP) : r1 = v := by
  refine Cg.nat ?_ hr1 hvp
  refine hr.trans (Cg.trans ?_ hv.symm)
  have h1 := hB.val i hi
  have e1 : seen 0 g'' i = ((g'' i : Nat) : Int) := by unfold seen; rw [Nat.zero_add]
  rw [e1] at h1
  refine h1.trans ?_
  have h2 := bwd_cg m (fun i => ((q i : Nat) : Int)) (seen 0 g') (fwd m (fun i => ((q i : Nat) : Int)) (seen 0 f)) (fun j hj => hF.val j (by omega)) i (by omega)
  refine h2.trans ?_
  have h3 := inv_any m _ (tab_ev hm7 hS hL).inv (seen 0 f) i (by omega)
  refine h3.trans (Cg.of_eq ?_)
  rw [← hm, ← hJ]
  congr 1
  unfold seen
  rw [Nat.zero_add]

set_option maxHeartbeats 4000000 in
theorem bwdLaw_main (a : Addr) (n cap m : Nat) (f : Nat → Nat) (w : World) {T : Nat → Prop} (h : Rd T w (some a) n f) (hm : Hid (n = 2 ^ m)) (hm7 : m ≤ 20) (hn1 : 1 ≤ n) (hn : n ≤ 8192) (hp2 : Hid (n &&& (n - 1) = 0)) (hf : Hid (∀ j, j < n → Wd (f j))) :
    Calls Try.prog 5 #[.slice (some a) n cap] w (LawTrue w) := by
  have hE := quo_eOf hm.out
  obtain ⟨E, hEe⟩ : ∃ E, E = eOf m := ⟨_, rfl⟩
  rw [← hEe] at hE
  have HE : Hid (E = eOf m) := hEe
  have hEw : Wd E := by rw [hEe]; exact eOf_wd m
  clear hEe
  go_enter Try.func5, Try.ntmps5
  go_wp2_with (first | (go_at_call 22; go_in) | (go_at_call 12; refine (isPow2_yes n hn1 (by omega) hp2.out _).mono ?_; rintro e w' ⟨rfl, hw'⟩; obtain rfl := hw'.symm))
  refine (cloneU64 a n cap f w h (by omega)).mono ?_
  rintro e w1 ⟨ba, rfl, hba, hA1, hg1⟩
  go_wp2_with fail
  refine (zzRoots_any n m E hm hn1 (by omega) hE hEw w1).mono ?_
  rintro e w2 ⟨br, q0, Sx, rfl, hbr, hQ0, hqw0, hSx0, hLv0, hg2⟩
  have hQ2 := tabFix_blk hm.out hQ0
  have HQW : Hid _ := tabFix_wd (m := m) hqw0
  have HSX : Hid (Cg Sx ((7 : Int) ^ E)) := hSx0
  have HLV : Hid _ := tabFix_levels hLv0
  have HQ1 : Hid _ := tabFix_one hLv0
  clear hQ0 hqw0 hSx0 hLv0
  obtain ⟨q, hq⟩ : ∃ q, q = tabFix m q0 := ⟨_, rfl⟩
  rw [← hq] at hQ2 HQW HLV HQ1
  clear hq
  have hA2 := hA1.kept hg2 (by intro e; cases e)
  go_wp2_with fail
  refine (cloneU64 ⟨ba, 0, none⟩ n n f w2 (S := fun _ => True) (hA2.rd trivial) (by omega)).mono ?_
  rintro e w3 ⟨bb, rfl, hbb, hB3, hg3⟩
  have hA3 := hA2.kept hg3 (by intro e; cases e)
  have hQ3 := hQ2.kept hg3 (by intro e; cases e)
  have hne : br ≠ bb := by have := hQ2.lt; omega
  have hne2 : ba ≠ bb := by have := hA2.lt; omega
  go_wp2_with fail
  refine (zzForward_any bb n f br n n q m 0 n n w3 hm (by omega) (Nat.le_refl _) (by omega) (by omega) (Nat.le_refl _) (Nat.le_refl _) hB3 hQ3 hne hf HQW HQ1).mono ?_
  rintro e w4 ⟨g', rfl, hB4, hEnd, hg4⟩
  have HEND : Hid _ := hEnd
  clear hEnd
  have hA4 := hA3.kept hg4 (by intro e; exact hne2 (Option.some.inj e).symm)
  have hQ4 := hQ3.kept hg4 (by intro e; exact hne (Option.some.inj e).symm)
  have HGW : Hid (∀ i, i < n → Wd (g' i)) := HEND.out.els.wd
  go_wp2_with fail
  refine (zzBackward_any bb n g' br n n q m 0 n n w4 hm (by omega) (Nat.le_refl _) (by omega) (by omega) (Nat.le_refl _) (Nat.le_refl _) hB4 hQ4 hne HGW HQW HQ1).mono ?_
  rintro e w5 ⟨g'', rfl, hB5, hEnd2, hg5⟩
  have HEND2 : Hid _ := hEnd2
  clear hEnd2
  have hA5 := hA4.kept hg5 (by intro e; exact hne2 (Option.some.inj e).symm)
  have HGW2 : Hid (∀ i, i < n → Wd (g'' i)) := HEND2.out.els.wd
  have hgw : w.grownBy w5 none := grown_trans hg1 (grown_trans hg2 (grown_new (grown_trans (grown_trans (grown_any hg3) hg4) hg5) hbb))
  clear hB3 hQ3 hA3 hQ2 hA2 hA1 hg1 hg2 hg3 hg4 hg5 hE h hB4 hQ4 hA4
  go_wp2_with fail
  go_loopw [6] (fun is wr => ∃ i : Nat, i ≤ n ∧ is = .int .i64 (i : Int) ∧ Blk wr ba 27 n f ∧ Blk wr bb 27 n g'' ∧ w.grownBy wr none) (fun is _ => n - (intOf is).toNat)
  case atStart => exact ⟨0, Nat.zero_le _, rfl, hA5, hB5, hgw⟩
  case round =>
    clear hA5 hB5 hgw
    obtain ⟨i, hi, rfl, hA, hB, hgr⟩ := hrel
    by_cases hlt : i < n
    · obtain ⟨J, hJ⟩ : ∃ J, J = (n - i) % n := ⟨_, rfl⟩
      have HJ : Hid (J = (n - i) % n) := hJ
      have hJn : J < n := by rw [hJ]; exact Nat.mod_lt _ (by omega)
      have hmod : ((n : Int) - (i : Int)) % (n : Int) = (J : Int) := by
        rw [hJ, show (n : Int) - (i : Int) = ((n - i : Nat) : Int) by omega]
        simp
      clear hJ
      have htm : ((n : Int) - (i : Int)).tmod (n : Int) = (J : Int) := by rw [Int.tmod_eq_emod_of_nonneg (by omega)]; exact hmod
      have hwr : IntKind.i64.wrap ((n : Int) - (i : Int)) = (n : Int) - (i : Int) := wrap_i64 (by omega) (by omega)
      have c1 := hB.cell hlt
      have c2 := hA.cell hJn
      have w1' := HGW2.out i hlt
      have w2' := hf.out J hJn
      have w3' : Wd n := by unfold Wd; omega
      have hi0 : (0 : Int) ≤ (i : Int) := by omega
      have hin : (i : Int) < (n : Int) := by omega
      have hJ0 : (0 : Int) ≤ (J : Int) := by omega
      have hJI : (J : Int) < (n : Int) := by omega
      have hn0'' : ¬ (n = 0) := by omega
      have hcw : IntKind.u64.wrap (n : Int) = (n : Int) := wrapn (by omega) rfl
      go_wp2_with fail
      go_region_held3 (fun w' => w'.cell? ⟨bb, i, none⟩ = some (.int .u64 ((g'' i : Nat) : Int)) ∧ w'.cell? ⟨ba, J, none⟩ = some (.int .u64 ((f J : Nat) : Int))) (exact ⟨c1, c2⟩) (first
        | (go_at_call 21; refine (red_any (g'' i) w1' _).mono ?_; rintro e w' ⟨r1, rfl, hr1, hr1c, hw'⟩; obtain rfl := hw'.symm)
        | (go_at_call 20; refine (mul_any n (f J) w3' w2' _).mono ?_; rintro e w' ⟨v, rfl, hv, hvc, hw'⟩; obtain rfl := hw'.symm; obtain rfl := bwd_law hm.out (by omega) (by rw [← HE.out]; exact HSX.out) HLV.out HEND.out HEND2.out hlt HJ.out hr1c hvc hr1 hv))
      clear hr1c hvc
      go_wp2_with fail
      go_roundw
      case rel => exact ⟨i + 1, by omega, by go_num, hA, hB, grown_drew hgr⟩
      case measure => simp [intOf]; omega
    · go_wp2_with fail
      go_ret
      exact ⟨rfl, hgr⟩

end Go.Proofs.Qxb6003749a
