/-
  forward (37), walked; ZZForward (17).
-/
import Derived.Test.Qxb6003749aFwd
import Derived.Deep.RegionHeld3
namespace Go.Proofs.Qxb6003749a
open Go.RowKit Go.Deep

/-- Nothing comes back; of the row at block b the words [o, o + n) are transformed. -/
def FwdDone (w : World) (b N : Nat) (m : Nat) (q : Nat → Nat) (o n : Nat) (g : Nat → Nat) (e : Ending) (w' : World) : Prop :=
  ∃ g', e = .returned (.tuple #[]) ∧ Blk w' b 27 N g' ∧ FwdEnd m q o n N g g' ∧ w.grownBy w' (some b)

theorem sl25_lh (b o n c l h : Nat) (h1 : l ≤ h) (h2 : h ≤ c) (h3 : l < c) {L H : Int} (hL : L = (l : Int)) (hH : H = (h : Int)) (w : World) :
    (Instr.slice 25 (.slice (some ⟨b, o, none⟩) n c) (some (.int .i64 L)) (some (.int .i64 H)) none).run Try.prog w = .ok (.slice (some ⟨b, o + l, none⟩) (h - l) (c - l)) w := by
  subst hL hH
  have hz : (sizeOf (Try.prog.elem 25)).run Try.prog w = .ok 1 w := by kernel_rfl
  rw [run_slice_lh w 25 (some ⟨b, o, none⟩) n c Try.underlying25 .i64 .i64 (l : Int) (h : Int) (by omega) (by omega) (by omega), hz]
  simp only [Result.andThen, sliced, Int.toNat_natCast, if_neg (show ¬ c = l by omega), Option.map_some, Nat.mul_one, Addr.add_lit]

theorem wrap_i64 {e : Int} (h1 : -9223372036854775808 ≤ e) (h2 : e ≤ 9223372036854775807) : IntKind.i64.wrap e = e := by
  rw [IntKind.wrap_i64]; omega

set_option maxHeartbeats 4000000 in
theorem forward_small (b N : Nat) (g : Nat → Nat) (br nq cq : Nat) (q : Nat → Nat) (m o n c : Nat) (w : World) (hm : Hid (n = 2 ^ m)) (hn1 : 1 ≤ n) (hn : n ≤ 4096) (hnc : n ≤ c) (hoN : o + n ≤ N) (hN : N ≤ 1048576) (hnq : n ≤ nq) (hqc : nq ≤ cq)
    (hb0 : Blk w b 27 N g) (hq0 : Blk w br 27 nq q) (hne : br ≠ b) (hg : Hid (∀ i, i < N → Wd (g i))) (hqw : Hid (∀ i, i < nq → Wd (q i))) (hW : Hid (Cg ((q 1 : Nat) : Int) 1)) :
    Calls Try.prog 37 #[.slice (some ⟨b, o, none⟩) n c, .slice (some ⟨br, 0, none⟩) nq cq] w (FwdDone w b N m q o n g) := by
  go_enter Try.func37, Try.ntmps37
  go_wp2_with fail
  go_loopw [6] (fun hs wr => ∃ (k H : Nat) (g' : Nat → Nat), hs = .int .i64 (H : Int) ∧ 2 * H ≤ n ∧ Hid (FwdAt m k H q o n N g g') ∧ Blk wr b 27 N g' ∧ w.grownBy wr (some b)) (fun hs _ => (intOf hs).toNat)
  case atStart => exact ⟨m, n / 2, g, by go_num, by omega, fwd_start hm.out hg.out, hb0, grown_refl _ _⟩
  case round =>
    obtain ⟨k, H, g', rfl, hH2, hA, hb, hgr⟩ := hrel
    by_cases hH : 2 ≤ H
    · have HP0 : Hid (Part H (stF H (fun i => ((q i : Nat) : Int))) o n N g' g' 0) := part_start hA.out.els.wd
      have hHd : decide ((2 : Int) ≤ (H : Int)) = true := decide_eq_true (by omega)
      go_wp2_with fail
      go_loopw [7] (fun ss wr => ∃ (s : Nat) (g'' : Nat → Nat), ss = .int .i64 (s : Int) ∧ s ≤ n ∧ Hid (Part H (stF H (fun i => ((q i : Nat) : Int))) o n N g' g'' s) ∧ Blk wr b 27 N g'' ∧ w.grownBy wr (some b)) (fun ss _ => n - (intOf ss).toNat)
      case atStart => exact ⟨0, g', rfl, Nat.zero_le _, HP0, hb, hgr⟩
      case round =>
        clear hb hgr HP0
        obtain ⟨s, g'', rfl, hs, hP, hb, hgr⟩ := hrel
        by_cases hlt : s < n
        · have hs2 : s + 2 * H ≤ n := by
            obtain ⟨d, hd⟩ := hP.out.mult
            exact whole_blocks hm.out hA.out.le hA.out.half (by omega) hd hlt
          have hqk := hq0.kept hgr (by intro e; exact hne (Option.some.inj e).symm)
          have hP2 := fwd_part hP.out hs2 hoN hqw.out (by omega)
          rw [Nat.add_assoc] at hP2
          have HP2 : Hid _ := hP2
          clear hP2
          have hgw : Hid (∀ i, i < N → Wd (g'' i)) := hP.out.els.wd
          go_wp2_with fail
          have s1 := sl25_lh b o n c s (s + H) (by omega) (by omega) (by omega) (L := (s : Int)) (H := (s : Int) + (H : Int)) rfl (by omega)
          have s2 := sl25_lh b o n c (s + H) (s + 2 * H) (by omega) (by omega) (by omega) (L := (s : Int) + (H : Int)) (H := (s : Int) + 2 * (H : Int)) (by omega) (by omega)
          have s3 := sl25_lh br 0 nq cq H (2 * H) (by omega) (by omega) (by omega) (L := (H : Int)) (H := 2 * (H : Int)) (by omega) (by omega)
          rw [show s + H - s = H by omega] at s1
          rw [show s + 2 * H - (s + H) = H by omega] at s2
          rw [show 2 * H - H = H by omega, Nat.zero_add] at s3
          have v1 : IntKind.i64.wrap ((s : Int) + (H : Int)) = (s : Int) + (H : Int) := wrap_i64 (by omega) (by omega)
          have v2 : IntKind.i64.wrap (2 * (H : Int)) = 2 * (H : Int) := wrap_i64 (by omega) (by omega)
          have v3 : IntKind.i64.wrap ((s : Int) + 2 * (H : Int)) = (s : Int) + 2 * (H : Int) := wrap_i64 (by omega) (by omega)
          go_region_held3 (fun _ => True) (trivial) (first | (go_at_call 47; refine (splitStage_any b N g'' br nq q (o + s) (o + (s + H)) H H (c - s) (c - (s + H)) (cq - H) wr.drew hb.drew hqk.drew hne (by omega) (by omega) (by omega) (by omega) (by omega) (by omega) hN hgw hqw).mono ?_; rintro e w' ⟨rfl, hb2, hg2⟩))
          have hg3 : w.grownBy w' (some b) := grown_trans (grown_drew hgr) hg2
          clear hg2 hb hgr hqk s1 s2 s3 v1 v2 v3
          go_wp2_with fail
          go_roundw
          case rel => exact ⟨s + 2 * H, _, by go_num, by omega, HP2, hb2, hg3⟩
          case measure => simp [intOf]; omega
        · have hsn : s = n := by omega
          subst hsn
          have HA2 : Hid _ := fwd_stage hm.out hA.out hH hP.out
          go_wp2_with fail
          go_roundw
          case rel => exact ⟨k - 1, H / 2, g'', by go_num, by omega, HA2, hb, hgr⟩
          case measure => simp [intOf]; omega
    · have HP0 : Hid (Part 1 (stF 1 (fun i => ((q i : Nat) : Int))) o n N g' g' 0) := part_start hA.out.els.wd
      go_wp2_with fail
      go_loopw [8] (fun ss wr => ∃ (s : Nat) (g'' : Nat → Nat), ss = .int .i64 (s : Int) ∧ s ≤ n ∧ Hid (Part 1 (stF 1 (fun i => ((q i : Nat) : Int))) o n N g' g'' s) ∧ Blk wr b 27 N g'' ∧ w.grownBy wr (some b)) (fun ss _ => n - (intOf ss).toNat)
      case atStart => exact ⟨0, g', rfl, Nat.zero_le _, HP0, hb, hgr⟩
      case round =>
        clear hb hgr HP0
        obtain ⟨s, g'', rfl, hs, hP, hb, hgr⟩ := hrel
        by_cases hlt : s + 1 < n
        · have c1 := hb.cell (j := o + s) (by omega)
          have c2 := hb.cell (j := o + (s + 1)) (by omega)
          have f1 := hb.free (o + s)
          have f2 := hb.free (o + (s + 1))
          have w1 := hP.out.els.wd (o + s) (by omega)
          have w2 := hP.out.els.wd (o + (s + 1)) (by omega)
          have HP2 : Hid _ := fwd_pair hW.out hP.out hlt hoN
          have HB : Hid (Blk ((wr.setCell ⟨b, o + s, none⟩ (.int .u64 ((addM (g'' (o + s)) (g'' (o + (s + 1))) : Nat) : Int))).setCell ⟨b, o + (s + 1), none⟩ (.int .u64 ((subM (g'' (o + s)) (g'' (o + (s + 1))) : Nat) : Int))) b 27 N (pairG o s g'')
              ∧ w.grownBy ((wr.setCell ⟨b, o + s, none⟩ (.int .u64 ((addM (g'' (o + s)) (g'' (o + (s + 1))) : Nat) : Int))).setCell ⟨b, o + (s + 1), none⟩ (.int .u64 ((subM (g'' (o + s)) (g'' (o + (s + 1))) : Nat) : Int))) (some b)) :=
            ⟨(hb.set _ _).set _ _, grown_set (grown_set hgr _ _) _ _⟩
          clear hb hgr
          go_wp2_with fail
          go_region
          go_wp2_with (first | (go_at_call 48; refine (addMod_any _ _ w1 w2 _).mono ?_; rintro e w' ⟨rfl, hw'⟩; obtain rfl := hw'.symm) | (go_at_call 49; refine (subMod_any _ _ w1 w2 _).mono ?_; rintro e w' ⟨rfl, hw'⟩; obtain rfl := hw'.symm))
          go_roundw
          case rel => exact ⟨s + 2, _, by go_num, by omega, HP2, HB.out.1, grown_drew HB.out.2⟩
          case measure => simp [intOf]; omega
        · have HE : Hid _ := fwd_end hm.out hA.out (by omega) hP.out hs (by omega)
          go_wp2_with fail
          go_end0
          exact ⟨g'', rfl, hb, HE.out, hgr⟩

end Go.Proofs.Qxb6003749a
