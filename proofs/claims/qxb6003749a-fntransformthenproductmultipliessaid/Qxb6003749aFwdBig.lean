/-
  forward (37) at a length of 8192: one stage, then the two halves; ZZForward (17).
-/
import Derived.Test.Qxb6003749aFwdWalk
namespace Go.Proofs.Qxb6003749a
open Go.RowKit Go.Deep

theorem sl25_h (b o n c h : Nat) (h2 : h ≤ c) (h3 : 0 < c) {H : Int} (hH : H = (h : Int)) (w : World) :
    (Instr.slice 25 (.slice (some ⟨b, o, none⟩) n c) none (some (.int .i64 H)) none).run Try.prog w = .ok (.slice (some ⟨b, o, none⟩) h c) w := by
  subst hH
  have hz : (sizeOf (Try.prog.elem 25)).run Try.prog w = .ok 1 w := by kernel_rfl
  rw [run_slice_h w 25 (some ⟨b, o, none⟩) n c Try.underlying25 .i64 (h : Int) (by omega) (by omega), hz]
  simp only [Result.andThen, sliced, Int.toNat_natCast, if_neg (show ¬ c = 0 by omega), Option.map_some, Nat.mul_one, Addr.add_lit, Nat.add_zero, Nat.sub_zero]

theorem sl25_l (b o n c l : Nat) (h1 : l ≤ n) (h3 : l < c) {L : Int} (hL : L = (l : Int)) (w : World) :
    (Instr.slice 25 (.slice (some ⟨b, o, none⟩) n c) (some (.int .i64 L)) none none).run Try.prog w = .ok (.slice (some ⟨b, o + l, none⟩) (n - l) (c - l)) w := by
  subst hL
  have hz : (sizeOf (Try.prog.elem 25)).run Try.prog w = .ok 1 w := by kernel_rfl
  rw [run_slice_l w 25 (some ⟨b, o, none⟩) n c Try.underlying25 .i64 (l : Int) (by omega) (by omega), hz]
  simp only [Result.andThen, sliced, Int.toNat_natCast, if_neg (show ¬ c = l by omega), Option.map_some, Nat.mul_one, Addr.add_lit]

/-- The stage and the two halves are the whole. -/
theorem fwd_halves {k o h n N nq : Nat} {q g g2 g3 : Nat → Nat} (hh : h = 2 ^ k) (hn : n = 2 * h) (hoN : o + n ≤ N) (hg : ∀ i, i < N → Wd (g i)) (hq : ∀ i, i < nq → Wd (q i)) (hnq : n ≤ nq)
    (h2 : FwdEnd k q o h N (splitG o (o + h) h g q h) g2) (h3 : FwdEnd k q (o + h) h N g2 g3) : FwdEnd (k + 1) q o n N g g3 := by
  have hp : 0 < h := by rw [hh]; exact Nat.two_pow_pos k
  refine ⟨⟨fun i hi ho => ?_, h3.els.wd⟩, fun i hi => ?_⟩
  · rw [h3.els.same i hi (by omega), h2.els.same i hi (by omega), splitG_fresh (by omega) (by omega)]
  · rw [fwd, ← hh]
    have hs : ∀ j, j < h → Cg (seen o (splitG o (o + h) h g q h) j) (seen o g j + seen o g (j + h)) := by
      intro j hj
      unfold seen splitG
      rw [if_pos (by omega)]
      have e : o + j - o + (o + h) = o + (j + h) := by omega
      rw [e]
      exact cg_addM _ _ (hg _ (by omega)) (hg _ (by omega))
    have hs2 : ∀ j, j < h → Cg (seen (o + h) (splitG o (o + h) h g q h) j) ((seen o g j - seen o g (j + h)) * ((q (h + j) : Nat) : Int)) := by
      intro j hj
      unfold seen splitG
      rw [if_neg (by omega), if_pos (by omega)]
      have e1 : o + h + j - (o + h) + o = o + j := by omega
      have e2 : o + h + j = o + (j + h) := by omega
      have e3 : h + (o + h + j - (o + h)) = h + j := by omega
      rw [e1, e3, e2]
      exact (cg_mulM _ _ (subM_lt _ _) (hq _ (by omega))).trans ((cg_subM _ _ (hg _ (by omega)) (hg _ (by omega))).mul (Cg.refl _))
    split
    · next hc =>
      have e : seen o g3 i = seen o g2 i := by unfold seen; rw [h3.els.same (o + i) (by omega) (by omega)]
      rw [e]
      refine (h2.val i hc).trans ?_
      exact fwd_cg k _ _ _ (fun j hj => hs j (by omega)) i (by omega)
    · next hc =>
      have e : seen o g3 i = seen (o + h) g3 (i - h) := by unfold seen; congr 2; omega
      rw [e]
      refine (h3.val (i - h) (by omega)).trans ?_
      refine fwd_cg k _ _ _ (fun j hj => ?_) (i - h) (by omega)
      have e2 : seen (o + h) g2 j = seen (o + h) (splitG o (o + h) h g q h) j := by unfold seen; rw [h2.els.same (o + h + j) (by omega) (by omega)]
      rw [e2]
      exact hs2 j (by omega)

theorem splitG_wd {ox oy ow j N : Nat} {g q : Nat → Nat} (hg : ∀ i, i < N → Wd (g i)) : ∀ i, i < N → Wd (splitG ox oy ow g q j i) := by
  intro i hi
  unfold splitG
  split
  · exact addM_lt _ _
  · split
    · exact mulM_lt _ _
    · exact hg i hi

set_option maxHeartbeats 4000000 in
theorem forward_big (b N : Nat) (g : Nat → Nat) (br nq cq : Nat) (q : Nat → Nat) (k o h n c : Nat) (w : World) (hh : Hid (h = 2 ^ k)) (hn2 : Hid (n = 2 * h)) (hd : (n : Int) / 2 = (h : Int)) (hn1 : 4096 < n) (hn : h ≤ 4096) (hnc : n ≤ c) (hoN : o + n ≤ N) (hN : N ≤ 1048576) (hnq : n ≤ nq) (hqc : nq ≤ cq)
    (hb0 : Blk w b 27 N g) (hq0 : Blk w br 27 nq q) (hne : br ≠ b) (hg : Hid (∀ i, i < N → Wd (g i))) (hqw : Hid (∀ i, i < nq → Wd (q i))) (hW : Hid (Cg ((q 1 : Nat) : Int) 1)) :
    Calls Try.prog 37 #[.slice (some ⟨b, o, none⟩) n c, .slice (some ⟨br, 0, none⟩) nq cq] w (FwdDone w b N (k + 1) q o n g) := by
  have hn3 := hn2.out
  have s1 := sl25_h b o n c h (by omega) (by omega) (H := (h : Int)) rfl
  have s2 := sl25_l b o n c h (by omega) (by omega) (L := (h : Int)) rfl
  have s3 := sl25_lh br 0 nq cq h n (by omega) (by omega) (by omega) (L := (h : Int)) (H := (n : Int)) rfl rfl
  rw [show n - h = h by omega] at s2
  rw [show n - h = h by omega, Nat.zero_add] at s3
  have b1 : h ≤ c := by omega
  have b2 : h ≤ c - h := by omega
  have b3 : h ≤ cq - h := by omega
  have b4 : o + h + h ≤ N := by omega
  have b5 : h + h ≤ nq := by omega
  have b6 : h ≤ nq := by omega
  have b7 : o + h ≤ N := by omega
  have b8 : 1 ≤ h := by omega
  have HW1 : Hid _ := splitG_wd (ox := o) (oy := o + h) (ow := h) (j := h) (q := q) hg.out
  clear hn3
  go_enter Try.func37, Try.ntmps37
  go_wp2_with fail
  go_region_held3 (fun _ => True) (trivial) (first | (go_at_call 47; refine (splitStage_any b N g br nq q o (o + h) h h c (c - h) (cq - h) w.drew hb0.drew hq0.drew hne (Nat.le_refl _) b4 b5 b1 b2 b3 hN hg hqw).mono ?_; rintro e w1 ⟨rfl, hb1, hg1⟩))
  have hq1 := hq0.drew.kept hg1 (by intro e; exact hne (Option.some.inj e).symm)
  go_wp2_with fail
  refine (forward_small b N _ br nq cq q k o h c w1 hh b8 hn b1 b7 hN b6 hqc hb1 hq1 hne HW1 hqw hW).mono ?_
  rintro e w2 ⟨g2, rfl, hb2, hE2, hg2⟩
  have HE2 : Hid _ := hE2
  clear hE2
  have hq2 := hq1.kept hg2 (by intro e; exact hne (Option.some.inj e).symm)
  have HW2 : Hid (∀ i, i < N → Wd (g2 i)) := HE2.out.els.wd
  go_wp2_with fail
  refine (forward_small b N g2 br nq cq q k (o + h) h (c - h) w2 hh b8 hn b2 b4 hN b6 hqc hb2 hq2 hne HW2 hqw hW).mono ?_
  rintro e w3 ⟨g3, rfl, hb3, hE3, hg3⟩
  have HE3 : Hid _ := fwd_halves hh.out hn2.out hoN hg.out hqw.out hnq HE2.out hE3
  clear hE3
  go_wp2_with fail
  go_end0
  exact ⟨g3, rfl, hb3, HE3.out, grown_trans (grown_trans (grown_trans (grown_drew (grown_refl _ _)) hg1) hg2) hg3⟩

/-- forward at every length up to 8192. -/
theorem forward_any (b N : Nat) (g : Nat → Nat) (br nq cq : Nat) (q : Nat → Nat) (m o n c : Nat) (w : World) (hm : n = 2 ^ m) (hn : n ≤ 8192) (hnc : n ≤ c) (hoN : o + n ≤ N) (hN : N ≤ 1048576) (hnq : n ≤ nq) (hqc : nq ≤ cq)
    (hb0 : Blk w b 27 N g) (hq0 : Blk w br 27 nq q) (hne : br ≠ b) (hg : ∀ i, i < N → Wd (g i)) (hqw : ∀ i, i < nq → Wd (q i)) (hW : Cg ((q 1 : Nat) : Int) 1) :
    Calls Try.prog 37 #[.slice (some ⟨b, o, none⟩) n c, .slice (some ⟨br, 0, none⟩) nq cq] w (FwdDone w b N m q o n g) := by
  have h1 : 1 ≤ n := by rw [hm]; exact Nat.two_pow_pos m
  by_cases hs : n ≤ 4096
  · exact forward_small b N g br nq cq q m o n c w hm h1 hs hnc hoN hN hnq hqc hb0 hq0 hne hg hqw hW
  · cases m with
    | zero => simp at hm; omega
    | succ k =>
      have hn2 : n = 2 * 2 ^ k := by rw [hm, Nat.pow_succ, Nat.mul_comm]
      exact forward_big b N g br nq cq q k o (2 ^ k) n c w rfl hn2 (by omega) (by omega) (by omega) hnc hoN hN hnq hqc hb0 hq0 hne hg hqw hW

/-- ZZForward. -/
theorem zzForward_any (b N : Nat) (g : Nat → Nat) (br nq cq : Nat) (q : Nat → Nat) (m o n c : Nat) (w : World) (hm : Hid (n = 2 ^ m)) (hn : n ≤ 8192) (hnc : n ≤ c) (hoN : o + n ≤ N) (hN : N ≤ 1048576) (hnq : n ≤ nq) (hqc : nq ≤ cq)
    (hb0 : Blk w b 27 N g) (hq0 : Blk w br 27 nq q) (hne : br ≠ b) (hg : Hid (∀ i, i < N → Wd (g i))) (hqw : Hid (∀ i, i < nq → Wd (q i))) (hW : Hid (Cg ((q 1 : Nat) : Int) 1)) :
    Calls Try.prog 17 #[.slice (some ⟨b, o, none⟩) n c, .slice (some ⟨br, 0, none⟩) nq cq] w (FwdDone w b N m q o n g) := by
  go_enter Try.func17, Try.ntmps17
  go_wp2_with fail
  refine (forward_any b N g br nq cq q m o n c w hm.out hn hnc hoN hN hnq hqc hb0 hq0 hne hg.out hqw.out hW.out).mono ?_
  rintro e w1 ⟨g1, rfl, hb1, hE1, hg1⟩
  have HE : Hid _ := hE1
  clear hE1
  go_wp2_with fail
  go_end0
  exact ⟨g1, rfl, hb1, HE.out, hg1⟩

end Go.Proofs.Qxb6003749a
