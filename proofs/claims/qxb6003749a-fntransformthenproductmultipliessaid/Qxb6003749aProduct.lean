/-
  multiplier.product (43), ZZProduct (29).
-/
import Derived.Test.Qxb6003749aRevers
import Derived.Test.Qxb6003749aJoin
namespace Go.Proofs.Qxb6003749a
open Go.RowKit Go.Deep

/-! ### The plain part -/
theorem two_full (e : Nat) (he : e = 18446744069414584320) : Cg ((2 : Int) ^ e) 1 := by
  have h := powP_cg 64 2 e 1 (by rw [he]; decide)
  rw [show (((1 : Nat)) : Int) = 1 from rfl, Int.one_mul] at h
  have h2 : powP 64 2 e 1 = 1 := by rw [he]; decide +kernel
  rw [h2] at h
  exact Cg.symm h

/-- The inverse of the length. -/
theorem inv_len {n m e : Nat} (hm : n = 2 ^ m) (he : e = 18446744069414584319) {r : Int} (hr : Cg r ((n : Int) ^ e)) : Cg ((n : Int) * r) 1 := by
  refine ((Cg.refl _).mul hr).trans ?_
  have e1 : (n : Int) * (n : Int) ^ e = ((2 : Int) ^ (e + 1)) ^ m := by
    rw [Int.mul_comm, ← Int.pow_succ, hm, ← Int.pow_mul, Nat.mul_comm, Int.pow_mul]
    simp
  rw [e1]
  refine ((two_full (e + 1) (by omega)).pow m).trans (Cg.of_eq ?_)
  exact Int.one_pow

/-- The value of each coefficient behind backward. -/
theorem prod_val {m n E : Nat} {S : Int} {q c g1 C : Nat → Nat} (hm : n = 2 ^ m) (hm7 : m ≤ 32) (hEe : E = eOf m) (hS : Cg S ((7 : Int) ^ E)) (hL : Levels m 0 S q) (hB : BwdEnd m q 0 n n c g1)
    (hval : ∀ k, k < n → Cg ((c k : Nat) : Int) (psum (ints C) (((7 : Int) ^ E) ^ revK k m) n)) (k : Nat) (hk : k < n) : Cg ((g1 ((n - k) % n) : Nat) : Int) ((n : Int) * ((C k : Nat) : Int)) := by
  subst hEe
  have hT := tab_ev hm7 hS hL
  have hi : (n - k) % n < n := Nat.mod_lt _ (by omega)
  have h1 := hB.val _ hi
  have e1 : seen 0 g1 ((n - k) % n) = ((g1 ((n - k) % n) : Nat) : Int) := by unfold seen; rw [Nat.zero_add]
  rw [e1] at h1
  refine h1.trans ?_
  have h2 : ∀ j, j < 2 ^ m → Cg (seen 0 c j) (fwd m (fun i => ((q i : Nat) : Int)) (ints C) j) := by
    intro j hj
    have e2 : seen 0 c j = ((c j : Nat) : Int) := by unfold seen; rw [Nat.zero_add]
    rw [e2]
    refine (hval j (by omega)).trans (Cg.symm ?_)
    refine (ev_any m _ _ hT (ints C) j hj).trans ?_
    rw [← hm]
    refine psum_cg _ _ _ _ _ fun i _ => (Cg.refl _).mul (Cg.pow ?_ i)
    show Cg ((S ^ (2 ^ (m - m))) ^ revK j m) _
    rw [Nat.sub_self, Nat.pow_zero, Int.pow_succ, Int.pow_zero, Int.one_mul]
    exact hS.pow _
  refine (bwd_cg m _ _ _ h2 _ (by omega)).trans ?_
  refine (inv_any m _ hT.inv (ints C) _ (by omega)).trans (Cg.of_eq ?_)
  rw [← hm]
  have e3 : (n - (n - k) % n) % n = k := by
    by_cases h0 : k = 0
    · subst h0
      rw [Nat.sub_zero, Nat.mod_self, Nat.sub_zero, Nat.mod_self]
    · rw [Nat.mod_eq_of_lt (show n - k < n by omega), show n - (n - k) = k by omega, Nat.mod_eq_of_lt hk]
  rw [e3]
  rfl

/-- Reversed from 1 on: the k-th is the (n - k) mod n-th. -/
theorem rev_one {n : Nat} (hn : 2 ≤ n) (g : Nat → Nat) (k : Nat) (hk : k < n) : revA 1 (n - 1) g k = g ((n - k) % n) := by
  unfold revA
  by_cases h0 : k = 0
  · subst h0
    rw [if_neg (by omega), Nat.sub_zero, Nat.mod_self]
  · rw [if_pos (by omega), Nat.mod_eq_of_lt (show n - k < n by omega)]
    congr 1
    omega

theorem revA_wd {o n N : Nat} {g : Nat → Nat} (ho : o + n ≤ N) (h : ∀ i, i < N → Wd (g i)) : ∀ i, i < N → Wd (revA o n g i) := by
  intro i hi
  unfold revA
  split
  · exact h _ (by omega)
  · exact h i hi

/-- One coefficient: what mulMod gives is the coefficient, or p above it. -/
theorem coef_one {n C : Nat} {u inv r : Nat} (hu : Cg (u : Int) ((n : Int) * (C : Int))) (hinv : Cg ((n : Int) * (inv : Int)) 1) (hr : Cg (r : Int) ((u : Int) * (inv : Int))) (hrw : Wd r) (hC : C < pP) : (r < pP ∧ r = C) ∨ (pP ≤ r ∧ redN r = C) := by
  have h1 : Cg (r : Int) (C : Int) := by
    refine hr.trans ((hu.mul (Cg.refl _)).trans ?_)
    refine Cg.trans (Cg.of_eq ?_) ((hinv.mul (Cg.refl (C : Int))).trans (Cg.of_eq (Int.one_mul _)))
    rw [Int.mul_assoc, Int.mul_comm (C : Int), ← Int.mul_assoc]
  by_cases hc : r < pP
  · exact .inl ⟨hc, Cg.nat h1 hc hC⟩
  · refine .inr ⟨by omega, ?_⟩
    unfold Cg at h1
    unfold redN
    unfold pP Wd at *
    omega

def RetProd (w : World) (row : Option Nat) (words : Nat) (V : Nat → Nat) (e : Ending) (w' : World) : Prop :=
  ∃ bz bj i, e = .returned (.pointer (some ⟨bz, 0, none⟩)) ∧ w.heap.size ≤ bz ∧ w.heap.size ≤ bj ∧ Norm words V i ∧ IntBlk w' bz (.bool false) (.slice (some ⟨bj, 0, none⟩) i words) ∧ Blk w' bj 61 words V ∧ w.grownBy w' row

theorem coef_step {w wr : World} {b n k : Nat} {C g : Nat → Nat} (v : Nat) (hv : v = C k) (hb : Blk wr b 27 n (fun j => if j < k then C j else g j)) (hg : w.grownBy wr (some b)) :
    Blk (wr.setCell ⟨b, k, none⟩ (.int .u64 ((v : Nat) : Int))) b 27 n (fun j => if j < k + 1 then C j else g j) ∧ w.grownBy (wr.setCell ⟨b, k, none⟩ (.int .u64 ((v : Nat) : Int))) (some b) := by
  subst hv
  exact split_step hb hg

theorem coef_step2 {w wr : World} {b n k : Nat} {C g : Nat → Nat} (u v : Nat) (hv : v = C k) (hb : Blk wr b 27 n (fun j => if j < k then C j else g j)) (hg : w.grownBy wr (some b)) :
    Blk ((wr.setCell ⟨b, k, none⟩ (.int .u64 ((u : Nat) : Int))).setCell ⟨b, k, none⟩ (.int .u64 ((v : Nat) : Int))) b 27 n (fun j => if j < k + 1 then C j else g j) ∧ w.grownBy ((wr.setCell ⟨b, k, none⟩ (.int .u64 ((u : Nat) : Int))).setCell ⟨b, k, none⟩ (.int .u64 ((v : Nat) : Int))) (some b) := by
  subst hv
  refine ⟨((hb.set _ _).set _ _).congr fun j _ => ?_, grown_set (grown_set hg _ _) _ _⟩
  by_cases h1 : j = k
  · subst h1; simp
  · by_cases h2 : j < k
    · rw [if_neg h1, if_neg h1, if_pos h2, if_pos (by omega)]
    · rw [if_neg h1, if_neg h1, if_neg h2, if_neg (by omega)]

set_option maxHeartbeats 4000000 in
theorem product_any (bm ba br n m wd words E : Nat) (B : Int) (S : Int) (q c C : Nat → Nat) (w : World) (hbm : w.heap[bm]? = some (.cells #[.slice (some ⟨br, 0, none⟩) n n] 50 (0, 0))) (hQ : Blk w br 27 n q) (hA : Blk w ba 27 n c) (hne : br ≠ ba)
    (hm : Hid (n = 2 ^ m)) (hm7 : m ≤ 20) (hn1 : 2 ≤ n) (hn : n ≤ 4096) (hw1 : 1 ≤ wd) (hw : wd ≤ 63) (hwo : words ≤ 2048) (hB0 : 0 ≤ B) (hB1 : B ≤ 1048576) (hB : (B + 64 - 1) / 64 = (words : Int))
    (hqw : Hid (∀ i, i < n → Wd (q i))) (hS : Hid (Cg S ((7 : Int) ^ E))) (hL : Hid (Levels m 0 S q)) (hq1 : Hid (Cg ((q 1 : Nat) : Int) 1)) (hEe : Hid (E = eOf m))
    (hcw : Hid (∀ i, i < n → Wd (c i))) (hval : Hid (∀ k, k < n → Cg ((c k : Nat) : Int) (psum (ints C) (((7 : Int) ^ E) ^ revK k m) n))) (hC : Hid (∀ k, k < n → C k < pP)) (hov : Hid (∀ i, i * wd / 64 < words → sumAt wd n C i < 2 ^ 64)) :
    Calls Try.prog 43 #[.pointer (some ⟨bm, 0, none⟩), .slice (some ⟨ba, 0, none⟩) n n, .int .i64 (wd : Int), .int .i64 B] w (RetProd w (some ba) words (fun j => csum wd n C n / 2 ^ (64 * j) % 2 ^ 64)) := by
  have c0 := cell_of_one hbm
  have hnw : Wd n := by unfold Wd; omega
  obtain ⟨ev, hev⟩ : ∃ ev : Nat, ev = 18446744069414584319 := ⟨_, rfl⟩
  have hew : Wd ev := by rw [hev]; unfold Wd; decide
  have hlit : (18446744069414584319 : Int) = (ev : Int) := by omega
  have HLIT : Hid ((18446744069414584319 : Int) = (ev : Int)) := hlit
  have HEV : Hid (ev = 18446744069414584319) := hev
  clear hev hlit
  have hsl := sl25_l ba 0 n n 1 (by omega) (by omega) (L := 1) rfl
  rw [Nat.zero_add] at hsl
  go_enter Try.func43, Try.ntmps43
  go_wp2_with fail
  refine (backward_any ba n c br n n q m 0 n n w hm.out (by omega) (Nat.le_refl _) (by omega) (by omega) (Nat.le_refl _) (Nat.le_refl _) hA hQ hne hcw.out hqw.out hq1.out).mono ?_
  rintro e w1 ⟨g1, rfl, hA1, hEnd, hg1⟩
  have HEND : Hid _ := hEnd
  clear hEnd
  go_wp2_with fail
  refine (reverse_any ba n 1 (n - 1) (n - 1) g1 w1 hA1 (by omega) (by omega) (by omega)).mono ?_
  rintro e w2 ⟨rfl, hA2, hg2⟩
  go_wp2_with fail
  rw [HLIT.out]
  refine (powMod_any n ev hnw hew w2).mono ?_
  rintro e w' ⟨inv, rfl, hinv, hinvc, hw'⟩
  obtain rfl := hw'.symm
  have HINV : Hid (Cg ((n : Int) * (inv : Int)) 1) := inv_len hm.out HEV.out hinvc
  clear hinvc
  have HG1 : Hid (∀ i, i < n → Wd (revA 1 (n - 1) g1 i)) := revA_wd (by omega) HEND.out.els.wd
  have HVAL : Hid (∀ k, k < n → Cg ((revA 1 (n - 1) g1 k : Nat) : Int) ((n : Int) * ((C k : Nat) : Int))) := by
    intro k hk
    rw [rev_one hn1 g1 k hk]
    exact prod_val hm.out (by omega) hEe.out hS.out hL.out HEND.out hval.out k hk
  have hgr2 : w.grownBy w2 (some ba) := grown_trans hg1 hg2
  obtain ⟨g2, hg2e⟩ : ∃ g2, g2 = revA 1 (n - 1) g1 := ⟨_, rfl⟩
  rw [← hg2e] at hA2 HG1 HVAL
  clear hg2e hsl hA1 hA hg1 hg2 c0 HEND
  go_wp2_with fail
  go_loopw [27] (fun is wr => ∃ k : Nat, k ≤ n ∧ is = .int .i64 (k : Int) ∧ Blk wr ba 27 n (fun j => if j < k then C j else g2 j) ∧ w.grownBy wr (some ba)) (fun is _ => n - (intOf is).toNat)
  case atStart => exact ⟨0, Nat.zero_le _, rfl, hA2.congr (fun j _ => by simp), hgr2⟩
  case round =>
    clear hA2 hgr2
    obtain ⟨k, hk, rfl, hb, hgr⟩ := hrel
    by_cases hlt : k < n
    · have c1 := hb.cell hlt
      rw [if_neg (by omega)] at c1
      have f1 := hb.free k
      have w1' := HG1.out k hlt
      go_wp2_with fail
      refine (mulMod_cg (g2 k) inv w1' hinv wr).mono ?_
      rintro e w' ⟨r, rfl, hr, hrc, hw'⟩
      obtain rfl := hw'.symm
      rcases coef_one (HVAL.out k hlt) HINV.out hrc hr (hC.out k hlt) with ⟨h1, h2⟩ | ⟨h1, h2⟩
      · have hd : decide ((18446744069414584321 : Int) ≤ (r : Int)) = false := decide_eq_false (by unfold pP at h1; omega)
        have HR : Hid _ := coef_step r h2 hb hgr
        clear h1 h2 hrc hb hgr
        go_wp2_with fail
        go_roundw
        case rel => exact ⟨k + 1, by omega, by go_num, HR.out.1, HR.out.2⟩
        case measure => simp [intOf]; omega
      · have hd : decide ((18446744069414584321 : Int) ≤ (r : Int)) = true := decide_eq_true (by unfold pP at h1; omega)
        have hs : IntKind.u64.wrap ((r : Int) - 18446744069414584321) = ((redN r : Nat) : Int) := by unfold Wd at hr; unfold pP at h1; rw [IntKind.wrap_u64]; unfold redN; omega
        have HR : Hid _ := coef_step2 r (redN r) h2 hb hgr
        clear h1 h2 hrc hb hgr
        go_wp2_with fail
        go_roundw
        case rel => exact ⟨k + 1, by omega, by go_num, HR.out.1, HR.out.2⟩
        case measure => simp [intOf]; omega
    · have hkn : k = n := by omega
      subst hkn
      have hA3 : Blk wr ba 27 k C := hb.congr (fun j hj => by rw [if_pos hj])
      clear hb
      go_wp2_with fail
      have hgA := grown_alloc wr (.cells #[.bool false, .slice none 0 0] 55) (some ba)
      have hA4 := hA3.kept (grown_alloc wr (.cells #[.bool false, .slice none 0 0] 55) none) (by intro e; cases e)
      have hX : IntBlk (wr.alloc (.cells #[.bool false, .slice none 0 0] 55)) wr.heap.size (.bool false) (.slice none 0 0) := heap_alloc_new wr _
      refine (join_any ba k C wd words _ hA4 (by omega) (by omega) hw1 hw hov).mono ?_
      rintro e w5 ⟨bj, rfl, hbj, hJ, hg5⟩
      rw [World.size_alloc] at hbj
      have hX5 := hX.kept hg5 (by intro e; cases e)
      have hszr := hgr.size
      go_wp2_with fail
      refine (setBits_any wr.heap.size bj words _ _ _ w5 hX5 hJ (by omega)).mono ?_
      rintro e w6 ⟨i, rfl, hNm, hX6, hg6⟩
      have hJ6 := hJ.kept hg6 (by intro e; have := Option.some.inj e; omega)
      have HN : Hid _ := hNm
      clear hNm
      have hgw : w.grownBy w6 (some ba) := grown_far (grown_trans (grown_trans hgr hgA) (grown_any hg5)) hg6 hszr
      go_wp2_with fail
      go_ret
      exact ⟨wr.heap.size, bj, i, rfl, hszr, by omega, HN.out, hX6, hJ6, hgw⟩

def RetWords (w : World) (row : Option Nat) (words : Nat) (V : Nat → Nat) (e : Ending) (w' : World) : Prop :=
  ∃ b i, e = .returned (.slice (some ⟨b, 0, none⟩) i i) ∧ w.heap.size ≤ b ∧ Norm words V i ∧ Blk w' b 28 i V ∧ w.grownBy w' row

set_option maxHeartbeats 2000000 in
theorem zzProduct_any (ba n m wd words E : Nat) (B : Int) (c C : Nat → Nat) (w : World) (hA : Blk w ba 27 n c)
    (hm : Hid (n = 2 ^ m)) (hm7 : m ≤ 20) (hn1 : 2 ≤ n) (hn : n ≤ 4096) (hw1 : 1 ≤ wd) (hw : wd ≤ 63) (hwo : words ≤ 2048) (hB0 : 0 ≤ B) (hB1 : B ≤ 1048576) (hB : Hid ((B + 64 - 1) / 64 = (words : Int)))
    (hE : Hid ((18446744069414584320 : Int) / (n : Int) = (E : Int))) (hEe : Hid (E = eOf m)) (hEw : Wd E)
    (hcw : Hid (∀ i, i < n → Wd (c i))) (hval : Hid (∀ k, k < n → Cg ((c k : Nat) : Int) (psum (ints C) (((7 : Int) ^ E) ^ revK k m) n))) (hC : Hid (∀ k, k < n → C k < pP)) (hov : Hid (∀ i, i * wd / 64 < words → sumAt wd n C i < 2 ^ 64)) :
    Calls Try.prog 29 #[.slice (some ⟨ba, 0, none⟩) n n, .int .i64 (wd : Int), .int .i64 B] w (RetWords w (some ba) words (fun j => csum wd n C n / 2 ^ (64 * j) % 2 ^ 64)) := by
  have hlt0 := hA.lt
  go_enter Try.func29, Try.ntmps29
  go_wp2_with fail
  refine (roots_any n m E hm (by omega) (by omega) hE.out hEw w).mono ?_
  rintro e w1 ⟨br, q0, Sx, rfl, hbr, hQ0, hqw0, hSx0, hLv0, hg1⟩
  have hQ1 := tabFix_blk hm.out hQ0
  have HQW : Hid _ := tabFix_wd (m := m) hqw0
  have HSX : Hid (Cg Sx ((7 : Int) ^ E)) := hSx0
  have HLV : Hid _ := tabFix_levels hLv0
  have HQ1 : Hid _ := tabFix_one hLv0
  clear hQ0 hqw0 hSx0 hLv0
  obtain ⟨q, hq⟩ : ∃ q, q = tabFix m q0 := ⟨_, rfl⟩
  rw [← hq] at hQ1 HQW HLV HQ1
  clear hq
  have hA1 := hA.kept hg1 (by intro e; cases e)
  go_wp2_with fail
  have hgA := grown_alloc w1 (.cells #[.slice (some ⟨br, 0, none⟩) n n] 50) none
  have hM2 : (w1.alloc (.cells #[.slice (some ⟨br, 0, none⟩) n n] 50)).heap[w1.heap.size]? = some (.cells #[.slice (some ⟨br, 0, none⟩) n n] 50 (0, 0)) := heap_alloc_new w1 _
  have hA2 := hA1.kept hgA (by intro e; cases e)
  have hQ2 := hQ1.kept hgA (by intro e; cases e)
  refine (product_any w1.heap.size ba br n m wd words E B Sx q c C _ hM2 hQ2 hA2 (by omega) hm hm7 hn1 hn hw1 hw hwo hB0 hB1 hB.out HQW HSX HLV HQ1 hEe hcw hval hC hov).mono ?_
  rintro e w3 ⟨bz, bj, i, rfl, hbz, hbj, hNm, hX3, hJ3, hg3⟩
  have HN : Hid _ := hNm
  have hiw : i ≤ words := hNm.1
  clear hNm
  rw [World.size_alloc] at hbz hbj
  have hsz1 := hg1.size
  go_wp2_with fail
  refine (bits_any bz _ (some ⟨bj, 0, none⟩) i words w3 hX3).mono ?_
  rintro e w' ⟨rfl, hw'⟩
  obtain rfl := hw'.symm
  have hRd : Rd (fun _ => True) w3 (some ⟨bj, 0, none⟩) i (fun j => csum wd n C n / 2 ^ (64 * j) % 2 ^ 64) := .inr ⟨bj, 0, rfl, trivial, fun j hj => by rw [Nat.zero_add]; exact hJ3.cell (by omega)⟩
  go_wp2_with fail
  refine (uints (some ⟨bj, 0, none⟩) i words _ w3 hRd (by omega)).mono ?_
  rintro e w4 ⟨bu, rfl, hbu, hU, hg4⟩
  have hgw : w.grownBy w4 (some ba) := grown_trans (grown_trans (grown_trans (grown_any hg1) (grown_any hgA)) hg3) (grown_any hg4)
  have hszu : w.heap.size ≤ bu := Nat.le_trans (Nat.le_trans hsz1 (Nat.le_trans hgA.size hg3.size)) hbu
  go_wp2_with fail
  go_ret
  exact ⟨bu, i, rfl, hszu, HN.out, hU, hgw⟩

end Go.Proofs.Qxb6003749a
