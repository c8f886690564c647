/-
  backward (38) at a length of 8192: the two halves, then one stage; ZZBackward (23).
-/
import Derived.Test.Qxb6003749aBwd
namespace Go.Proofs.Qxb6003749a
open Go.RowKit Go.Deep

theorem bwd_halves {k o h n N nq : Nat} {q g g1 g2 : Nat → Nat} (hh : h = 2 ^ k) (hn : n = 2 * h) (hoN : o + n ≤ N) (hq : ∀ i, i < nq → Wd (q i)) (hnq : n ≤ nq)
    (h1 : BwdEnd k q o h N g g1) (h2 : BwdEnd k q (o + h) h N g1 g2) : BwdEnd (k + 1) q o n N g (joinG o (o + h) h g2 q h) := by
  have hp : 0 < h := by rw [hh]; exact Nat.two_pow_pos k
  have hwd := h2.els.wd
  refine ⟨⟨fun i hi ho => ?_, fun i hi => ?_⟩, fun i hi => ?_⟩
  · rw [joinG_fresh (by omega) (by omega), h2.els.same i hi (by omega), h1.els.same i hi (by omega)]
  · unfold joinG
    split
    · exact addM_lt _ _
    · split
      · exact subM_lt _ _
      · exact hwd i hi
  · have lo : ∀ i, i < h → Cg ((g2 (o + i) : Nat) : Int) (bwd k (fun i => ((q i : Nat) : Int)) (seen o g) i) := by
      intro i hi
      rw [h2.els.same (o + i) (by omega) (by omega)]
      exact h1.val i hi
    have hi' : ∀ i, i < h → Cg ((g2 (o + h + i) : Nat) : Int) (bwd k (fun i => ((q i : Nat) : Int)) (fun j => seen o g (h + j)) i) := by
      intro i hi
      refine (h2.val i hi).trans ?_
      refine bwd_cg k _ _ _ (fun j hj => Cg.of_eq ?_) i (by omega)
      unfold seen
      rw [h1.els.same (o + h + j) (by omega) (by omega), Nat.add_assoc]
    rw [bwd, ← hh]
    unfold seen joinG
    split
    · next hc =>
      have hlt : i < h := by omega
      rw [if_pos hlt]
      have e1 : o + i - o + (o + h) = o + h + i := by omega
      have e2 : h + (o + i - o) = h + i := by omega
      rw [e1, e2]
      exact (cg_addM _ _ (hwd _ (by omega)) (mulM_lt _ _)).trans ((lo i hlt).add ((cg_mulM _ _ (hwd _ (by omega)) (hq _ (by omega))).trans ((hi' i hlt).mul (Cg.refl _))))
    · next hc =>
      have hge : ¬ i < h := by omega
      rw [if_pos (by omega), if_neg hge]
      have e1 : o + i - (o + h) + o = o + (i - h) := by omega
      have e2 : h + (o + i - (o + h)) = i := by omega
      have e3 : o + i = o + h + (i - h) := by omega
      rw [e1, e2]
      refine (cg_subM _ _ (hwd _ (by omega)) (mulM_lt _ _)).trans ((lo (i - h) (by omega)).sub ((cg_mulM _ _ (hwd _ (by omega)) (hq _ (by omega))).trans (Cg.mul ?_ (Cg.refl _))))
      rw [e3]
      exact hi' (i - h) (by omega)

set_option maxHeartbeats 4000000 in
theorem backward_big (b N : Nat) (g : Nat → Nat) (br nq cq : Nat) (q : Nat → Nat) (k o h n c : Nat) (w : World) (hh : Hid (h = 2 ^ k)) (hn2 : Hid (n = 2 * h)) (hd : (n : Int) / 2 = (h : Int)) (hn1 : 4096 < n) (hn : h ≤ 4096) (hnc : n ≤ c) (hoN : o + n ≤ N) (hN : N ≤ 1048576) (hnq : n ≤ nq) (hqc : nq ≤ cq)
    (hb0 : Blk w b 27 N g) (hq0 : Blk w br 27 nq q) (hne : br ≠ b) (hg : Hid (∀ i, i < N → Wd (g i))) (hqw : Hid (∀ i, i < nq → Wd (q i))) (hW : Hid (Cg ((q 1 : Nat) : Int) 1)) :
    Calls Try.prog 38 #[.slice (some ⟨b, o, none⟩) n c, .slice (some ⟨br, 0, none⟩) nq cq] w (BwdDone w b N (k + 1) q o n g) := by
  have hn3 := hn2.out
  have s1 := sl25_h b o n c h (by omega) (by omega) (H := (h : Int)) rfl
  have s2 := sl25_l b o n c h (by omega) (by omega) (L := (h : Int)) rfl
  have s3 := sl25_lh br 0 nq cq h n (by omega) (by omega) (by omega) (L := (h : Int)) (H := (n : Int)) rfl rfl
  rw [show n - h = h by omega] at s2
  rw [show n - h = h by omega, Nat.zero_add] at s3
  have b1 : h ≤ c := by omega
  have b2 : h ≤ c - h := by omega
  have b3 : h ≤ cq - h := by omega
  have b4 : o + h + h ≤ N := by omega
  have b5 : h + h ≤ nq := by omega
  have b6 : h ≤ nq := by omega
  have b7 : o + h ≤ N := by omega
  have b8 : 1 ≤ h := by omega
  clear hn3
  go_enter Try.func38, Try.ntmps38
  go_wp2_with fail
  refine (backward_small b N g br nq cq q k o h c w hh b8 hn b1 b7 hN b6 hqc hb0 hq0 hne hg hqw hW).mono ?_
  rintro e w1 ⟨g1, rfl, hb1, hE1, hg1⟩
  have HE1 : Hid _ := hE1
  clear hE1
  have hq1 := hq0.kept hg1 (by intro e; exact hne (Option.some.inj e).symm)
  have HW1 : Hid (∀ i, i < N → Wd (g1 i)) := HE1.out.els.wd
  go_wp2_with fail
  refine (backward_small b N g1 br nq cq q k (o + h) h (c - h) w1 hh b8 hn b2 b4 hN b6 hqc hb1 hq1 hne HW1 hqw hW).mono ?_
  rintro e w2 ⟨g2, rfl, hb2, hE2, hg2⟩
  have HW2 : Hid (∀ i, i < N → Wd (g2 i)) := hE2.els.wd
  have HE2 : Hid _ := bwd_halves hh.out hn2.out hoN hqw.out hnq HE1.out hE2
  clear hE2
  have hq2 := hq1.kept hg2 (by intro e; exact hne (Option.some.inj e).symm)
  go_wp2_with fail
  go_region_held3 (fun _ => True) (trivial) (first | (go_at_call 50; refine (joinStage_any b N g2 br nq q o (o + h) h h c (c - h) (cq - h) w2.drew hb2.drew hq2.drew hne (Nat.le_refl _) b4 b5 b1 b2 b3 hN HW2 hqw).mono ?_; rintro e w3 ⟨rfl, hb3, hg3⟩))
  go_wp2_with fail
  go_end0
  exact ⟨_, rfl, hb3, HE2.out, grown_trans (grown_drew (grown_trans hg1 hg2)) hg3⟩

theorem backward_any (b N : Nat) (g : Nat → Nat) (br nq cq : Nat) (q : Nat → Nat) (m o n c : Nat) (w : World) (hm : n = 2 ^ m) (hn : n ≤ 8192) (hnc : n ≤ c) (hoN : o + n ≤ N) (hN : N ≤ 1048576) (hnq : n ≤ nq) (hqc : nq ≤ cq)
    (hb0 : Blk w b 27 N g) (hq0 : Blk w br 27 nq q) (hne : br ≠ b) (hg : ∀ i, i < N → Wd (g i)) (hqw : ∀ i, i < nq → Wd (q i)) (hW : Cg ((q 1 : Nat) : Int) 1) :
    Calls Try.prog 38 #[.slice (some ⟨b, o, none⟩) n c, .slice (some ⟨br, 0, none⟩) nq cq] w (BwdDone w b N m q o n g) := by
  have h1 : 1 ≤ n := by rw [hm]; exact Nat.two_pow_pos m
  by_cases hs : n ≤ 4096
  · exact backward_small b N g br nq cq q m o n c w hm h1 hs hnc hoN hN hnq hqc hb0 hq0 hne hg hqw hW
  · cases m with
    | zero => simp at hm; omega
    | succ k =>
      have hn2 : n = 2 * 2 ^ k := by rw [hm, Nat.pow_succ, Nat.mul_comm]
      exact backward_big b N g br nq cq q k o (2 ^ k) n c w rfl hn2 (by omega) (by omega) (by omega) hnc hoN hN hnq hqc hb0 hq0 hne hg hqw hW

theorem zzBackward_any (b N : Nat) (g : Nat → Nat) (br nq cq : Nat) (q : Nat → Nat) (m o n c : Nat) (w : World) (hm : Hid (n = 2 ^ m)) (hn : n ≤ 8192) (hnc : n ≤ c) (hoN : o + n ≤ N) (hN : N ≤ 1048576) (hnq : n ≤ nq) (hqc : nq ≤ cq)
    (hb0 : Blk w b 27 N g) (hq0 : Blk w br 27 nq q) (hne : br ≠ b) (hg : Hid (∀ i, i < N → Wd (g i))) (hqw : Hid (∀ i, i < nq → Wd (q i))) (hW : Hid (Cg ((q 1 : Nat) : Int) 1)) :
    Calls Try.prog 23 #[.slice (some ⟨b, o, none⟩) n c, .slice (some ⟨br, 0, none⟩) nq cq] w (BwdDone w b N m q o n g) := by
  go_enter Try.func23, Try.ntmps23
  go_wp2_with fail
  refine (backward_any b N g br nq cq q m o n c w hm.out hn hnc hoN hN hnq hqc hb0 hq0 hne hg.out hqw.out hW.out).mono ?_
  rintro e w1 ⟨g1, rfl, hb1, hE1, hg1⟩
  have HE : Hid _ := hE1
  clear hE1
  go_wp2_with fail
  go_end0
  exact ⟨g1, rfl, hb1, HE.out, hg1⟩

end Go.Proofs.Qxb6003749a
