/-
  backward (38), ZZBackward (23): the plain steps of its loops, and its walk.
-/
import Derived.Test.Qxb6003749aFwdBig
namespace Go.Proofs.Qxb6003749a
open Go.RowKit Go.Deep

theorem bwd_part {H o n N : Nat} {g g' q : Nat → Nat} {s nq : Nat} (hP : Part H (stB H (fun i => ((q i : Nat) : Int))) o n N g g' s) (hs : s + 2 * H ≤ n) (hn : o + n ≤ N) (hq : ∀ i, i < nq → Wd (q i)) (hnq : 2 * H ≤ nq) :
    Part H (stB H (fun i => ((q i : Nat) : Int))) o n N g (joinG (o + s) (o + s + H) H g' q H) (s + 2 * H) := by
  obtain ⟨⟨hsame, hwd⟩, hdone, hleft, c, hc⟩ := hP
  refine ⟨⟨?_, ?_⟩, ?_, ?_, c + 1, by have : (c + 1) * (2 * H) = c * (2 * H) + 2 * H := Nat.succ_mul c (2 * H); omega⟩
  · intro i hi ho
    rw [joinG_fresh (by omega) (by omega)]
    exact hsame i hi ho
  · intro i hi
    unfold joinG
    split
    · exact addM_lt _ _
    · split
      · exact subM_lt _ _
      · exact hwd i hi
  · intro i hi
    by_cases h1 : i < s
    · have := hdone i h1
      unfold seen at *
      rw [joinG_fresh (by omega) (by omega)]
      exact this
    · have hm := mod_blk hc (by omega) hi
      unfold seen joinG stB
      rw [hm]
      by_cases h2 : i - s < H
      · rw [if_pos h2, if_pos (by omega)]
        have e1 : o + i - (o + s) + (o + s + H) = o + (i + H) := by omega
        have e2 : H + (o + i - (o + s)) = H + (i - s) := by omega
        rw [e1, e2, hleft i (by omega) (by omega), hleft (i + H) (by omega) (by omega)]
        have w1 := hwd (o + i) (by omega)
        have w2 := hwd (o + (i + H)) (by omega)
        rw [hleft i (by omega) (by omega)] at w1
        rw [hleft (i + H) (by omega) (by omega)] at w2
        exact (cg_addM _ _ w1 (mulM_lt _ _)).trans ((Cg.refl _).add (cg_mulM _ _ w2 (hq _ (by omega))))
      · rw [if_neg h2, if_neg (by omega), if_pos (by omega)]
        have e1 : o + i - (o + s + H) + (o + s) = o + (i - H) := by omega
        have e2 : H + (o + i - (o + s + H)) = i - s := by omega
        rw [e1, e2, hleft i (by omega) (by omega), hleft (i - H) (by omega) (by omega)]
        have w1 := hwd (o + i) (by omega)
        have w2 := hwd (o + (i - H)) (by omega)
        rw [hleft i (by omega) (by omega)] at w1
        rw [hleft (i - H) (by omega) (by omega)] at w2
        exact (cg_subM _ _ w2 (mulM_lt _ _)).trans ((Cg.refl _).sub (cg_mulM _ _ w1 (hq _ (by omega))))
  · intro i h1 h2
    rw [joinG_fresh (by omega) (by omega)]
    exact hleft i (by omega) h2

theorem bwd_pair {o n N : Nat} {W : Nat → Int} {g g' : Nat → Nat} {s : Nat} (hW : Cg (W 1) 1) (hP : Part 1 (stB 1 W) o n N g g' s) (hs : s + 1 < n) (hn : o + n ≤ N) : Part 1 (stB 1 W) o n N g (pairG o s g') (s + 2) := by
  obtain ⟨⟨hsame, hwd⟩, hdone, hleft, c, hc⟩ := hP
  refine ⟨⟨?_, ?_⟩, ?_, ?_, c + 1, by omega⟩
  · intro i hi ho
    rw [pair_fresh (by omega) (by omega)]
    exact hsame i hi ho
  · intro i hi
    unfold pairG
    split
    · exact subM_lt _ _
    · split
      · exact addM_lt _ _
      · exact hwd i hi
  · intro i hi
    have w1 := hwd (o + s) (by omega)
    have w2 := hwd (o + (s + 1)) (by omega)
    rw [hleft s (by omega) (by omega)] at w1
    rw [hleft (s + 1) (by omega) (by omega)] at w2
    by_cases h1 : i < s
    · have := hdone i h1
      unfold seen at *
      rw [pair_fresh (by omega) (by omega)]
      exact this
    · unfold seen pairG stB
      by_cases h2 : i = s
      · subst h2
        rw [if_neg (by omega), if_pos rfl, if_pos (by omega), hleft i (by omega) (by omega), hleft (i + 1) (by omega) (by omega)]
        have e : 1 + i % (2 * 1) = 1 := by omega
        rw [e]
        refine (cg_addM _ _ w1 w2).trans ((Cg.refl _).add (Cg.trans (Cg.of_eq (Int.mul_one _).symm) ((Cg.refl _).mul hW.symm)))
      · have h3 : i = s + 1 := by omega
        subst h3
        rw [if_pos rfl, if_neg (by omega), hleft s (by omega) (by omega), hleft (s + 1) (by omega) (by omega)]
        have e : (s + 1) % (2 * 1) = 1 := by omega
        rw [e, Nat.add_sub_cancel]
        refine (cg_subM _ _ w1 w2).trans ((Cg.refl _).sub (Cg.trans (Cg.of_eq (Int.mul_one _).symm) ((Cg.refl _).mul hW.symm)))
  · intro i h1 h2
    rw [pair_fresh (by omega) (by omega)]
    exact hleft i (by omega) h2

/-- Behind the stages up to blocks of 2^k. -/
structure BwdAt (m k H : Nat) (q : Nat → Nat) (o n N : Nat) (g g' : Nat → Nat) : Prop where
  len : H = 2 ^ k
  els : Else o n N g g'
  val : 1 ≤ m → k ≤ m ∧ ∀ i, i < 2 ^ m → Cg (seen o g' i) (bwdB k (fun i => ((q i : Nat) : Int)) (seen o g) i)
  bare : m = 0 → ∀ i, i < n → g' (o + i) = g (o + i)

structure BwdEnd (m : Nat) (q : Nat → Nat) (o n N : Nat) (g g' : Nat → Nat) : Prop where
  els : Else o n N g g'
  val : ∀ i, i < n → Cg (seen o g' i) (bwd m (fun i => ((q i : Nat) : Int)) (seen o g) i)

theorem bwd_first {m o n N s : Nat} {q g g' : Nat → Nat} (hm : n = 2 ^ m) (hP : Part 1 (stB 1 (fun i => ((q i : Nat) : Int))) o n N g g' s) (hs : s ≤ n) (hs2 : n ≤ s + 1) : BwdAt m 1 2 q o n N g g' := by
  obtain ⟨c, hc⟩ := hP.mult
  refine ⟨rfl, hP.els, fun h1 => ⟨h1, fun i hi => ?_⟩, fun h0 i hi => ?_⟩
  · have hev : ∃ d, n = 2 * d := by
      cases m with
      | zero => omega
      | succ m => exact ⟨2 ^ m, by rw [hm, Nat.pow_succ, Nat.mul_comm]⟩
    obtain ⟨d, hd⟩ := hev
    have h2 := hP.done i (by omega)
    refine h2.trans (Cg.of_eq ?_)
    rw [show (1 : Nat) = 0 + 1 from rfl, bwdB_succ]
    show stB 1 _ _ i = stB (2 ^ 0) _ _ i
    congr 1
    funext j
    rw [bwdB_zero]
  · subst h0
    have hn1 : n = 1 := by simpa using hm
    exact hP.left i (by omega) hi

theorem bwd_stage {m k H o n N : Nat} {q g g' g'' : Nat → Nat} (hm : n = 2 ^ m) (hA : BwdAt m k H q o n N g g') (hH : H < n) (hP : Part H (stB H (fun i => ((q i : Nat) : Int))) o n N g' g'' n) : BwdAt m (k + 1) (H * 2) q o n N g g'' := by
  obtain ⟨hlen, hels, hval, hbare⟩ := hA
  have hkm : k < m := by
    by_cases h : k < m
    · exact h
    · have : 2 ^ m ≤ 2 ^ k := Nat.pow_le_pow_right (by omega) (by omega)
      omega
  refine ⟨by rw [hlen, Nat.pow_succ], ⟨fun i hi ho => ?_, hP.els.wd⟩, fun h1 => ⟨by omega, fun i hi => ?_⟩, fun h0 => by omega⟩
  · rw [hP.els.same i hi ho, hels.same i hi ho]
  · have ⟨_, hv⟩ := hval h1
    refine (hP.done i (by omega)).trans ?_
    rw [bwdB_succ, hlen]
    have hpk : 0 < 2 ^ k := Nat.two_pow_pos k
    -- the stage, of congruent values
    have hin := blk_in m (k + 1) i
    unfold stB
    have hdm : i / (2 * 2 ^ k) * (2 * 2 ^ k) + i % (2 * 2 ^ k) = i := by rw [Nat.mul_comm]; exact Nat.div_add_mod _ _
    have hp2 : 2 ^ (k + 1) = 2 * 2 ^ k := by rw [Nat.pow_succ, Nat.mul_comm]
    split
    · next hc =>
      have h3 := hin (i % (2 * 2 ^ k) + 2 ^ k) (by omega) hi (by omega)
      rw [hp2] at h3
      exact (hv i hi).add ((hv (i + 2 ^ k) (by omega)).mul (Cg.refl _))
    · next hc =>
      exact (hv (i - 2 ^ k) (by omega)).sub ((hv i hi).mul (Cg.refl _))

theorem bwd_end {m k H o n N : Nat} {q g g' : Nat → Nat} (hm : n = 2 ^ m) (hA : BwdAt m k H q o n N g g') (hH : n ≤ H) : BwdEnd m q o n N g g' := by
  obtain ⟨hlen, hels, hval, hbare⟩ := hA
  refine ⟨hels, fun i hi => ?_⟩
  by_cases h0 : m = 0
  · have := hbare h0 i hi
    subst h0
    rw [bwd]
    unfold seen
    rw [this]
    exact Cg.refl _
  · have ⟨h1, h2⟩ := hval (by omega)
    have hkm : k = m := by
      by_cases h : k < m
      · have : 2 ^ k < 2 ^ m := Nat.pow_lt_pow_right (by omega) h
        omega
      · omega
    subst hkm
    have := h2 i (by omega)
    rw [bwdB_top k _ _ i (by omega)] at this
    exact this

def BwdDone (w : World) (b N : Nat) (m : Nat) (q : Nat → Nat) (o n : Nat) (g : Nat → Nat) (e : Ending) (w' : World) : Prop :=
  ∃ g', e = .returned (.tuple #[]) ∧ Blk w' b 27 N g' ∧ BwdEnd m q o n N g g' ∧ w.grownBy w' (some b)

theorem blocks_fit {m k H n s c : Nat} (hm : n = 2 ^ m) (hH : H = 2 ^ k) (hlt : H < n) (hs : s = c * (2 * H)) (hsn : s < n) : s + 2 * H ≤ n := by
  have hkm : k < m := by
    by_cases h : k < m
    · exact h
    · have : 2 ^ m ≤ 2 ^ k := Nat.pow_le_pow_right (by omega) (by omega)
      omega
  exact whole_blocks (k := k + 1) hm (by omega) (by rw [Nat.pow_succ, Nat.mul_div_cancel _ (by omega)]; exact hH) (by rw [hH]; exact Nat.two_pow_pos k) hs hsn

set_option maxHeartbeats 4000000 in
theorem backward_small (b N : Nat) (g : Nat → Nat) (br nq cq : Nat) (q : Nat → Nat) (m o n c : Nat) (w : World) (hm : Hid (n = 2 ^ m)) (hn1 : 1 ≤ n) (hn : n ≤ 4096) (hnc : n ≤ c) (hoN : o + n ≤ N) (hN : N ≤ 1048576) (hnq : n ≤ nq) (hqc : nq ≤ cq)
    (hb0 : Blk w b 27 N g) (hq0 : Blk w br 27 nq q) (hne : br ≠ b) (hg : Hid (∀ i, i < N → Wd (g i))) (hqw : Hid (∀ i, i < nq → Wd (q i))) (hW : Hid (Cg ((q 1 : Nat) : Int) 1)) :
    Calls Try.prog 38 #[.slice (some ⟨b, o, none⟩) n c, .slice (some ⟨br, 0, none⟩) nq cq] w (BwdDone w b N m q o n g) := by
  have HP0 : Hid (Part 1 (stB 1 (fun i => ((q i : Nat) : Int))) o n N g g 0) := part_start hg.out
  go_enter Try.func38, Try.ntmps38
  go_wp2_with fail
  go_loopw [6] (fun ss wr => ∃ (s : Nat) (g'' : Nat → Nat), ss = .int .i64 (s : Int) ∧ s ≤ n ∧ Hid (Part 1 (stB 1 (fun i => ((q i : Nat) : Int))) o n N g g'' s) ∧ Blk wr b 27 N g'' ∧ w.grownBy wr (some b)) (fun ss _ => n - (intOf ss).toNat)
  case atStart => exact ⟨0, g, rfl, Nat.zero_le _, HP0, hb0, grown_refl _ _⟩
  case round =>
    clear HP0
    obtain ⟨s, g'', rfl, hs, hP, hb, hgr⟩ := hrel
    by_cases hlt : s + 1 < n
    · have c1 := hb.cell (j := o + s) (by omega)
      have c2 := hb.cell (j := o + (s + 1)) (by omega)
      have f1 := hb.free (o + s)
      have f2 := hb.free (o + (s + 1))
      have w1 := hP.out.els.wd (o + s) (by omega)
      have w2 := hP.out.els.wd (o + (s + 1)) (by omega)
      have HP2 : Hid _ := bwd_pair hW.out hP.out hlt hoN
      have HB : Hid (Blk ((wr.setCell ⟨b, o + s, none⟩ (.int .u64 ((addM (g'' (o + s)) (g'' (o + (s + 1))) : Nat) : Int))).setCell ⟨b, o + (s + 1), none⟩ (.int .u64 ((subM (g'' (o + s)) (g'' (o + (s + 1))) : Nat) : Int))) b 27 N (pairG o s g'')
          ∧ w.grownBy ((wr.setCell ⟨b, o + s, none⟩ (.int .u64 ((addM (g'' (o + s)) (g'' (o + (s + 1))) : Nat) : Int))).setCell ⟨b, o + (s + 1), none⟩ (.int .u64 ((subM (g'' (o + s)) (g'' (o + (s + 1))) : Nat) : Int))) (some b)) :=
        ⟨(hb.set _ _).set _ _, grown_set (grown_set hgr _ _) _ _⟩
      clear hb hgr
      go_wp2_with fail
      go_region
      go_wp2_with (first | (go_at_call 48; refine (addMod_any _ _ w1 w2 _).mono ?_; rintro e w' ⟨rfl, hw'⟩; obtain rfl := hw'.symm) | (go_at_call 49; refine (subMod_any _ _ w1 w2 _).mono ?_; rintro e w' ⟨rfl, hw'⟩; obtain rfl := hw'.symm))
      go_roundw
      case rel => exact ⟨s + 2, _, by go_num, by omega, HP2, HB.out.1, grown_drew HB.out.2⟩
      case measure => simp [intOf]; omega
    · have HA0 : Hid _ := bwd_first hm.out hP.out hs (by omega)
      clear hP
      go_wp2_with fail
      go_loopw [9] (fun hs wr => ∃ (k H : Nat) (g' : Nat → Nat), hs = .int .i64 (H : Int) ∧ 1 ≤ H ∧ H ≤ 2 * n ∧ Hid (BwdAt m k H q o n N g g') ∧ Blk wr b 27 N g' ∧ w.grownBy wr (some b)) (fun hs _ => n - (intOf hs).toNat)
      case atStart => exact ⟨1, 2, g'', rfl, by omega, by omega, HA0, hb, hgr⟩
      case round =>
        clear hb hgr HA0
        obtain ⟨k, H, g', rfl, hH1, hH2, hA, hb, hgr⟩ := hrel
        by_cases hH : H < n
        · have HP0 : Hid (Part H (stB H (fun i => ((q i : Nat) : Int))) o n N g' g' 0) := part_start hA.out.els.wd
          have hHd : decide ((H : Int) < (n : Int)) = true := decide_eq_true (by omega)
          go_wp2_with fail
          go_loopw [10] (fun ss wr => ∃ (s : Nat) (g'' : Nat → Nat), ss = .int .i64 (s : Int) ∧ s ≤ n ∧ Hid (Part H (stB H (fun i => ((q i : Nat) : Int))) o n N g' g'' s) ∧ Blk wr b 27 N g'' ∧ w.grownBy wr (some b)) (fun ss _ => n - (intOf ss).toNat)
          case atStart => exact ⟨0, g', rfl, Nat.zero_le _, HP0, hb, hgr⟩
          case round =>
            clear hb hgr HP0
            obtain ⟨s, g'', rfl, hs, hP, hb, hgr⟩ := hrel
            by_cases hlt : s < n
            · have hs2 : s + 2 * H ≤ n := by
                obtain ⟨d, hd⟩ := hP.out.mult
                exact blocks_fit hm.out hA.out.len hH hd hlt
              have hqk := hq0.kept hgr (by intro e; exact hne (Option.some.inj e).symm)
              have hP2 := bwd_part hP.out hs2 hoN hqw.out (by omega)
              rw [Nat.add_assoc] at hP2
              have HP2 : Hid _ := hP2
              clear hP2
              have hgw : Hid (∀ i, i < N → Wd (g'' i)) := hP.out.els.wd
              go_wp2_with fail
              have s1 := sl25_lh b o n c s (s + H) (by omega) (by omega) (by omega) (L := (s : Int)) (H := (s : Int) + (H : Int)) rfl (by omega)
              have s2 := sl25_lh b o n c (s + H) (s + 2 * H) (by omega) (by omega) (by omega) (L := (s : Int) + (H : Int)) (H := (s : Int) + 2 * (H : Int)) (by omega) (by omega)
              have s3 := sl25_lh br 0 nq cq H (2 * H) (by omega) (by omega) (by omega) (L := (H : Int)) (H := 2 * (H : Int)) (by omega) (by omega)
              rw [show s + H - s = H by omega] at s1
              rw [show s + 2 * H - (s + H) = H by omega] at s2
              rw [show 2 * H - H = H by omega, Nat.zero_add] at s3
              have v1 : IntKind.i64.wrap ((s : Int) + (H : Int)) = (s : Int) + (H : Int) := wrap_i64 (by omega) (by omega)
              have v2 : IntKind.i64.wrap (2 * (H : Int)) = 2 * (H : Int) := wrap_i64 (by omega) (by omega)
              have v3 : IntKind.i64.wrap ((s : Int) + 2 * (H : Int)) = (s : Int) + 2 * (H : Int) := wrap_i64 (by omega) (by omega)
              go_region_held3 (fun _ => True) (trivial) (first | (go_at_call 50; refine (joinStage_any b N g'' br nq q (o + s) (o + (s + H)) H H (c - s) (c - (s + H)) (cq - H) wr.drew hb.drew hqk.drew hne (by omega) (by omega) (by omega) (by omega) (by omega) (by omega) hN hgw hqw).mono ?_; rintro e w' ⟨rfl, hb2, hg2⟩))
              have hg3 : w.grownBy w' (some b) := grown_trans (grown_drew hgr) hg2
              clear hg2 hb hgr hqk s1 s2 s3 v1 v2 v3
              go_wp2_with fail
              go_roundw
              case rel => exact ⟨s + 2 * H, _, by go_num, by omega, HP2, hb2, hg3⟩
              case measure => simp [intOf]; omega
            · have hsn : s = n := by omega
              subst hsn
              have HA2 : Hid _ := bwd_stage hm.out hA.out hH hP.out
              go_wp2_with fail
              go_roundw
              case rel => exact ⟨k + 1, H * 2, g'', by go_num, by omega, by omega, HA2, hb, hgr⟩
              case measure => simp [intOf]; omega
        · have HE : Hid _ := bwd_end hm.out hA.out (by omega)
          go_wp2_with fail
          go_end0
          exact ⟨g', rfl, hb, HE.out, hgr⟩

end Go.Proofs.Qxb6003749a
