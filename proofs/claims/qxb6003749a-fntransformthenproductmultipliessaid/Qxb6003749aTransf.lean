/-
  multiplier.transform (40), ZZTransform (27), ZZMulMod (28).
-/
import Derived.Test.Qxb6003749aBig
import Derived.Test.Qxb6003749aBwdBig
import Derived.Test.Qxb6003749aLawFwd
import Derived.Test.Qxb6003749aLawSplit
namespace Go.Proofs.Qxb6003749a
open Go.RowKit Go.Deep

/-- A row that did not lie there at the start may be written freely. -/
theorem grown_far {a b c : World} {row : Option Nat} {s : Nat} (h : a.grownBy b row) (k : b.grownBy c (some s)) (hs : a.heap.size ≤ s) : a.grownBy c row :=
  ⟨k.os.trans h.os, k.tape.trans h.tape, k.output.trans h.output, Nat.le_trans h.size k.size, fun i hi hn => (k.block i (Nat.lt_of_lt_of_le hi h.size) (fun e => by injection e; omega)).trans (h.block i hi hn)⟩

/-- The pieces as split lays them are those of the number. -/
theorem splitOut_pcs {n i : Nat} {f : Nat → Nat} (wd : Nat) (hf : ∀ j, j < n → f j < 2 ^ 64) (h1 : i ≤ n) (h2 : ∀ j, i ≤ j → j < n → f j = 0) (k : Nat) : splitOut i f wd (fun _ => 0) k = pcs (num n f) wd k := by
  rw [num_norm h1 h2]
  unfold splitOut
  split
  · rfl
  · next h =>
    have hl := num_lt i f (fun j hj => hf j (by omega))
    exact (pcs_zero hl (by omega)).symm

/-- What transform leaves. -/
def TrVal (m n E : Nat) (X wd : Nat) (g : Nat → Nat) : Prop := ∀ k, k < n → Cg ((g k : Nat) : Int) (psum (ints (pcs X wd)) (((7 : Int) ^ E) ^ revK k m) n)

theorem tr_val {m n N : Nat} {S : Int} {q f0 g : Nat → Nat} {X wd : Nat} (hm : n = 2 ^ m) (hm7 : m ≤ 32) (hS : Cg S ((7 : Int) ^ eOf m)) (hL : Levels m 0 S q) (hE : FwdEnd m q 0 n N f0 g) (hf : ∀ k, f0 k = pcs X wd k) : TrVal m n (eOf m) X wd g := by
  intro k hk
  have h1 := hE.val k hk
  have e1 : seen 0 g k = ((g k : Nat) : Int) := by unfold seen; rw [Nat.zero_add]
  rw [e1] at h1
  have e2 : seen 0 f0 = ints (pcs X wd) := by
    funext j
    unfold seen ints
    rw [Nat.zero_add, hf]
  rw [e2] at h1
  refine h1.trans ?_
  have h2 := ev_any m _ _ (tab_ev hm7 hS hL) (ints (pcs X wd)) k (by omega)
  refine h2.trans ?_
  rw [← hm]
  refine psum_cg _ _ _ _ _ fun j _ => (Cg.refl _).mul (Cg.pow ?_ j)
  show Cg ((S ^ (2 ^ (m - m))) ^ revK k m) _
  rw [Nat.sub_self, Nat.pow_zero, Int.pow_succ, Int.pow_zero, Int.one_mul]
  exact hS.pow _

/-- The transform comes back in a new row. -/
def RetTr (w : World) (row : Option Nat) (n m E X wd : Nat) (e : Ending) (w' : World) : Prop :=
  ∃ b g, e = .returned (.slice (some ⟨b, 0, none⟩) n n) ∧ w.heap.size ≤ b ∧ Blk w' b 27 n g ∧ (∀ i, i < n → Wd (g i)) ∧ TrVal m n E X wd g ∧ w.grownBy w' row

theorem wd_of_pow {n : Nat} {f : Nat → Nat} (h : ∀ j, j < n → f j < 2 ^ 64) : ∀ j, j < n → Wd (f j) := h

set_option maxHeartbeats 4000000 in
theorem transform_any (bm bx b len i n m wd E : Nat) (v0 : Value) (f : Nat → Nat) (w : World) (hbm : w.heap[bm]? = some (.cells #[.slice none 0 0] 50 (0, 0))) (hx : IntBlk w bx v0 (.slice (some ⟨b, 0, none⟩) i len)) (hb : Blk w b 61 len f) (hxm : bx ≠ bm) (hbmm : b ≠ bm)
    (hN : Hid (i ≤ len ∧ ∀ j, i ≤ j → j < len → f j = 0)) (hlen : len ≤ 1024) (hm : Hid (n = 2 ^ m)) (hm7 : m ≤ 20) (hn1 : 1 ≤ n) (hn : n ≤ 4096) (hw1 : 1 ≤ wd) (hw : wd ≤ 63) (hE : (18446744069414584320 : Int) / (n : Int) = (E : Int)) (hEe : Hid (E = eOf m)) (hEw : Wd E)
    (hf : Hid (∀ j, j < len → f j < 2 ^ 64)) :
    Calls Try.prog 40 #[.pointer (some ⟨bm, 0, none⟩), .pointer (some ⟨bx, 0, none⟩), .int .i64 (n : Int), .int .i64 (wd : Int)] w (RetTr w (some bm) n m E (num len f) wd) := by
  have c0 := cell_of_one hbm
  have f0 := free_of_one hbm
  have hmk := mk25 n (by omega)
  have hil : i ≤ 1024 := by have := hN.out.1; omega
  have hbmlt := lt_of_block hbm
  have hblt := hb.lt
  have hxlt := hx.lt
  go_enter Try.func40, Try.ntmps40
  go_wp2_with fail
  refine (roots_any n m E hm hn1 (by omega) hE hEw w).mono ?_
  rintro e w1 ⟨br, q0, Sx, rfl, hbr, hQ0, hqw0, hSx0, hLv0, hg1⟩
  have hQ1 := tabFix_blk hm.out hQ0
  have HQW : Hid _ := tabFix_wd (m := m) hqw0
  have HSX : Hid (Cg Sx ((7 : Int) ^ E)) := hSx0
  have HLV : Hid _ := tabFix_levels hLv0
  have HQ1 : Hid _ := tabFix_one hLv0
  clear hQ0 hqw0 hSx0 hLv0 hE
  obtain ⟨q, hq⟩ : ∃ q, q = tabFix m q0 := ⟨_, rfl⟩
  rw [← hq] at hQ1 HQW HLV HQ1
  clear hq
  have hbm1 : w1.heap[bm]? = some (.cells #[.slice none 0 0] 50 (0, 0)) := by rw [hg1.block bm hbmlt (by intro e; cases e)]; exact hbm
  have hx1 := hx.kept hg1 (by intro e; cases e)
  have hb1 := hb.kept hg1 (by intro e; cases e)
  have c1 := cell_of_one hbm1
  have f1 := free_of_one hbm1
  have hsz := hg1.size
  have hlt1 := hQ1.lt
  clear c0 f0 hbm hx hb
  go_wp2_with fail
  have hg2 : w1.grownBy ((w1.setCell ⟨bm, 0, none⟩ (.slice (some ⟨br, 0, none⟩) n n)).alloc (.cells (rowOf n fun _ => 0) 27)) (some bm) := grown_trans (grown_set (grown_refl _ _) _ _) (grown_alloc _ _ _)
  have hA : Blk ((w1.setCell ⟨bm, 0, none⟩ (.slice (some ⟨br, 0, none⟩) n n)).alloc (.cells (rowOf n fun _ => 0) 27)) w1.heap.size 27 n (fun _ => 0) := by
    have := blk_alloc (w1.setCell ⟨bm, 0, none⟩ (.slice (some ⟨br, 0, none⟩) n n)) 27 n (fun _ => 0)
    rw [World.size_setCell] at this
    exact this
  have hM : ((w1.setCell ⟨bm, 0, none⟩ (.slice (some ⟨br, 0, none⟩) n n)).alloc (.cells (rowOf n fun _ => 0) 27)).heap[bm]? = some (.cells #[.slice (some ⟨br, 0, none⟩) n n] 50 (0, 0)) := by
    rw [Below.heap_alloc _ _ _ (by rw [World.size_setCell]; omega)]
    exact one_setCell hbm1
  obtain ⟨W3, hW3⟩ : ∃ x, x = (w1.setCell ⟨bm, 0, none⟩ (.slice (some ⟨br, 0, none⟩) n n)).alloc (.cells (rowOf n fun _ => 0) 27) := ⟨_, rfl⟩
  rw [← hW3] at hg2 hA hM ⊢
  clear hW3
  have hx3 := hx1.kept hg2 (by intro e; exact hxm (Option.some.inj e).symm)
  have hb3 := hb1.kept hg2 (by intro e; exact hbmm (Option.some.inj e).symm)
  have hQ3 := hQ1.kept hg2 (by intro e; have := Option.some.inj e; omega)
  clear hbm1 hx1 hb1 hQ1 c1 f1 hmk
  refine (bits_any bx v0 (some ⟨b, 0, none⟩) i len W3 hx3).mono ?_
  rintro e w' ⟨rfl, hw'⟩
  obtain rfl := hw'.symm
  have hfi : Hid (∀ j, j < i → f j < 2 ^ 64) := fun j hj => hf.out j (by have := hN.out.1; omega)
  have hRd : Rd (fun x => x ≠ w1.heap.size) W3 (some ⟨b, 0, none⟩) i f := .inr ⟨b, 0, rfl, by omega, fun j hj => by rw [Nat.zero_add]; exact hb3.cell (by have := hN.out.1; omega)⟩
  go_wp2_with fail
  refine (split_any w1.heap.size n _ (some ⟨b, 0, none⟩) i len f wd W3 hA hRd (by omega) (by omega) hw1 hw hfi).mono ?_
  rintro e w4 ⟨rfl, hA4, hg4⟩
  have hQ4 := hQ3.kept hg4 (by intro e; have := Option.some.inj e; omega)
  have hM4 : w4.heap[bm]? = some (.cells #[.slice (some ⟨br, 0, none⟩) n n] 50 (0, 0)) := by rw [hg4.block bm (lt_of_block hM) (by intro e; have := Option.some.inj e; omega)]; exact hM
  have c4 := cell_of_one hM4
  have HSP : Hid (∀ k, splitOut i f wd (fun _ => 0) k = pcs (num len f) wd k) := fun k => splitOut_pcs wd hf.out hN.out.1 hN.out.2 k
  have HSW : Hid (∀ k, k < n → Wd (splitOut i f wd (fun _ => 0) k)) := by
    intro k _
    rw [HSP.out k]
    exact Nat.lt_of_le_of_lt (pcs_le _ _ _) (by have := pow_le_64 hw; omega)
  have hne : br ≠ w1.heap.size := by omega
  clear hA hM hx3 hb3 hQ3 hRd hM4
  go_wp2_with fail
  refine (forward_any w1.heap.size n _ br n n q m 0 n n w4 hm.out (by omega) (Nat.le_refl _) (by omega) (by omega) (Nat.le_refl _) (Nat.le_refl _) hA4 hQ4 hne HSW.out HQW.out HQ1.out).mono ?_
  rintro e w5 ⟨g, rfl, hA5, hEnd, hg5⟩
  have HT : Hid (TrVal m n E (num len f) wd g) := by
    rw [hEe.out]
    exact tr_val hm.out (by omega) (by rw [← hEe.out]; exact HSX.out) HLV.out hEnd HSP.out
  have HW : Hid (∀ i, i < n → Wd (g i)) := hEnd.els.wd
  have hgw : w.grownBy w5 (some bm) := grown_far (grown_far (grown_trans (grown_any hg1) hg2) hg4 hsz) hg5 hsz
  clear hEnd
  go_wp2_with fail
  go_ret
  exact ⟨w1.heap.size, g, rfl, hsz, hA5, HW.out, HT.out, hgw⟩

set_option maxHeartbeats 2000000 in
theorem zzTransform_any (xa : Option Addr) (len cap n m wd E : Nat) (f : Nat → Nat) (w : World) {T : Nat → Prop} (h : Rd T w xa len f) (hlen : len ≤ 1024) (hm : Hid (n = 2 ^ m)) (hm7 : m ≤ 20) (hn1 : 1 ≤ n) (hn : n ≤ 4096) (hw1 : 1 ≤ wd) (hw : wd ≤ 63)
    (hE : Hid ((18446744069414584320 : Int) / (n : Int) = (E : Int))) (hEe : Hid (E = eOf m)) (hEw : Wd E) (hf : Hid (∀ j, j < len → f j < 2 ^ 64)) :
    Calls Try.prog 27 #[.slice xa len cap, .int .i64 (n : Int), .int .i64 (wd : Int)] w (RetTr w none n m E (num len f) wd) := by
  go_enter Try.func27, Try.ntmps27
  go_wp2_with fail
  have hgA : w.grownBy ((w.alloc (.cells #[.slice none 0 0] 50)).alloc (.cells #[.bool false, .slice none 0 0] 55)) none := grown_trans (grown_alloc _ _ _) (grown_alloc _ _ _)
  have hM0 : ((w.alloc (.cells #[.slice none 0 0] 50)).alloc (.cells #[.bool false, .slice none 0 0] 55)).heap[w.heap.size]? = some (.cells #[.slice none 0 0] 50 (0, 0)) := heap_alloc2_old w _ _
  have hX0 : IntBlk ((w.alloc (.cells #[.slice none 0 0] 50)).alloc (.cells #[.bool false, .slice none 0 0] 55)) (w.heap.size + 1) (.bool false) (.slice none 0 0) := heap_alloc2_new w _ _
  obtain ⟨W0, hW0⟩ : ∃ x, x = (w.alloc (.cells #[.slice none 0 0] 50)).alloc (.cells #[.bool false, .slice none 0 0] 55) := ⟨_, rfl⟩
  rw [← hW0] at hgA hM0 hX0 ⊢
  have hz0 : W0.heap.size = w.heap.size + 2 := by rw [hW0]; simp
  have HZ : Hid (W0.heap.size = w.heap.size + 2) := hz0
  clear hW0 hz0
  refine (words xa len cap f W0 (h.keptNew hgA) (by omega)).mono ?_
  rintro e w1 ⟨b, rfl, hb, hB1, hg1⟩
  have hX1 := hX0.kept hg1 (by intro e; cases e)
  have hM1 : w1.heap[w.heap.size]? = some (.cells #[.slice none 0 0] 50 (0, 0)) := by rw [hg1.block _ (lt_of_block hM0) (by intro e; cases e)]; exact hM0
  have hb2 : w.heap.size + 2 ≤ b := by have := HZ.out; omega
  go_wp2_with fail
  refine (setBits_any (w.heap.size + 1) b len f _ _ w1 hX1 hB1 (by omega)).mono ?_
  rintro e w2 ⟨i, rfl, hN, hX2, hg2⟩
  have hB2 := hB1.kept hg2 (by intro e; have := Option.some.inj e; omega)
  have hM2 : w2.heap[w.heap.size]? = some (.cells #[.slice none 0 0] 50 (0, 0)) := by rw [hg2.block _ (lt_of_block hM1) (by intro e; have := Option.some.inj e; omega)]; exact hM1
  have HN : Hid (i ≤ len ∧ ∀ j, i ≤ j → j < len → f j = 0) := ⟨hN.1, hN.2.1⟩
  clear hN hX0 hX1 hM0 hM1 hB1
  go_wp2_with fail
  refine (transform_any w.heap.size (w.heap.size + 1) b len i n m wd E _ f w2 hM2 hX2 hB2 (by omega) (by omega) HN hlen hm hm7 hn1 hn hw1 hw hE.out hEe hEw hf).mono ?_
  rintro e w3 ⟨ba, g, rfl, hba, hA, hW, hT, hg3⟩
  have HW : Hid _ := hW
  have HT : Hid _ := hT
  have hgw : w.grownBy w3 none := grown_far (grown_far (grown_trans hgA hg1) hg2 (by omega)) hg3 (Nat.le_refl _)
  have hle : w.heap.size ≤ ba := Nat.le_trans (Nat.le_trans hgA.size hg1.size) (Nat.le_trans hg2.size hba)
  clear hW hT
  go_wp2_with fail
  go_ret
  exact ⟨ba, g, rfl, hle, hA, HW.out, HT.out, hgw⟩

/-- ZZMulMod. -/
theorem zzMulMod_any (a b : Nat) (ha : Wd a) (hb : Wd b) (w : World) : Calls Try.prog 28 #[.int .u64 (a : Int), .int .u64 (b : Int)] w (RetCg w ((a : Int) * (b : Int))) := by
  go_enter Try.func28, Try.ntmps28
  go_wp2_with fail
  refine (mulMod_cg a b ha hb w).mono ?_
  rintro e w' ⟨r, rfl, hr, hc, hw'⟩
  obtain rfl := hw'.symm
  have HC : Hid _ := hc
  clear hc
  go_wp2_with fail
  go_ret
  exact ⟨r, rfl, hr, HC.out, rfl⟩

end Go.Proofs.Qxb6003749a
