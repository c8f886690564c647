/-
  forward (37): the plain steps of its loops, and the walk at a length of at most 4096.
-/
import Derived.Test.Qxb6003749aRoots
namespace Go.Proofs.Qxb6003749a
open Go.RowKit Go.Deep

/-- The row seen as integers, from o on. -/
def seen (o : Nat) (g : Nat → Nat) (i : Nat) : Int := ((g (o + i) : Nat) : Int)

/-- Outside [o, o + n) the row g' is g; every word of it is a word. -/
structure Else (o n N : Nat) (g g' : Nat → Nat) : Prop where
  same : ∀ i, i < N → (i < o ∨ o + n ≤ i) → g' i = g i
  wd : ∀ i, i < N → Wd (g' i)

/-- Some blocks of the stage of half-length H are done: those below s. -/
structure Part (H : Nat) (st : (Nat → Int) → Nat → Int) (o n N : Nat) (g g' : Nat → Nat) (s : Nat) : Prop where
  els : Else o n N g g'
  done : ∀ i, i < s → Cg (seen o g' i) (st (seen o g) i)
  left : ∀ i, s ≤ i → i < n → g' (o + i) = g (o + i)
  mult : ∃ c, s = c * (2 * H)

theorem part_start {H : Nat} {st : (Nat → Int) → Nat → Int} {o n N : Nat} {g : Nat → Nat} (hwd : ∀ i, i < N → Wd (g i)) : Part H st o n N g g 0 :=
  ⟨⟨fun _ _ _ => rfl, hwd⟩, fun i hi => absurd hi (by omega), fun _ _ _ => rfl, 0, by omega⟩

theorem mod_blk {s H i c : Nat} (hs : s = c * (2 * H)) (h1 : s ≤ i) (h2 : i < s + 2 * H) : i % (2 * H) = i - s := by
  have : i = c * (2 * H) + (i - s) := by omega
  rw [this, mod_in _ _ _ (by omega)]
  omega

theorem fwd_part {H o n N : Nat} {g g' q : Nat → Nat} {s nq : Nat} (hP : Part H (stF H (fun i => ((q i : Nat) : Int))) o n N g g' s) (hs : s + 2 * H ≤ n) (hn : o + n ≤ N) (hq : ∀ i, i < nq → Wd (q i)) (hnq : 2 * H ≤ nq) :
    Part H (stF H (fun i => ((q i : Nat) : Int))) o n N g (splitG (o + s) (o + s + H) H g' q H) (s + 2 * H) := by
  obtain ⟨⟨hsame, hwd⟩, hdone, hleft, c, hc⟩ := hP
  refine ⟨⟨?_, ?_⟩, ?_, ?_, c + 1, by have : (c + 1) * (2 * H) = c * (2 * H) + 2 * H := Nat.succ_mul c (2 * H); omega⟩
  · intro i hi ho
    rw [splitG_fresh (by omega) (by omega)]
    exact hsame i hi ho
  · intro i hi
    unfold splitG
    split
    · exact addM_lt _ _
    · split
      · exact mulM_lt _ _
      · exact hwd i hi
  · intro i hi
    by_cases h1 : i < s
    · have := hdone i h1
      unfold seen at *
      rw [splitG_fresh (by omega) (by omega)]
      exact this
    · have hm := mod_blk hc (by omega) hi
      unfold seen splitG stF
      rw [hm]
      by_cases h2 : i - s < H
      · rw [if_pos h2, if_pos (by omega)]
        have e1 : o + i - (o + s) + (o + s + H) = o + (i + H) := by omega
        rw [e1, hleft i (by omega) (by omega), hleft (i + H) (by omega) (by omega)]
        have w1 := hwd (o + i) (by omega)
        have w2 := hwd (o + (i + H)) (by omega)
        rw [hleft i (by omega) (by omega)] at w1
        rw [hleft (i + H) (by omega) (by omega)] at w2
        exact cg_addM _ _ w1 w2
      · rw [if_neg h2, if_neg (by omega), if_pos (by omega)]
        have e1 : o + i - (o + s + H) + (o + s) = o + (i - H) := by omega
        have e2 : H + (o + i - (o + s + H)) = i - s := by omega
        rw [e1, e2, hleft i (by omega) (by omega), hleft (i - H) (by omega) (by omega)]
        have w1 := hwd (o + i) (by omega)
        have w2 := hwd (o + (i - H)) (by omega)
        rw [hleft i (by omega) (by omega)] at w1
        rw [hleft (i - H) (by omega) (by omega)] at w2
        exact (cg_mulM _ _ (subM_lt _ _) (hq _ (by omega))).trans ((cg_subM _ _ w2 w1).mul (Cg.refl _))
  · intro i h1 h2
    rw [splitG_fresh (by omega) (by omega)]
    exact hleft i (by omega) h2

/-- Behind the stages down to blocks of 2^k. -/
structure FwdAt (m k H : Nat) (q : Nat → Nat) (o n N : Nat) (g g' : Nat → Nat) : Prop where
  half : H = 2 ^ k / 2
  le : k ≤ m
  pos : 1 ≤ k ∨ m = 0
  els : Else o n N g g'
  val : ∀ i, i < 2 ^ m → Cg (fwdB k (fun i => ((q i : Nat) : Int)) (seen o g') i) (fwd m (fun i => ((q i : Nat) : Int)) (seen o g) i)

theorem fwd_start {m n o N : Nat} {q g : Nat → Nat} (hm : n = 2 ^ m) (hwd : ∀ i, i < N → Wd (g i)) : FwdAt m m (n / 2) q o n N g g :=
  ⟨by rw [hm], Nat.le_refl _, by omega, ⟨fun _ _ _ => rfl, hwd⟩, fun i hi => Cg.of_eq (fwdB_top m _ _ i hi)⟩

theorem pow_half {k H : Nat} (hH : H = 2 ^ k / 2) (h2 : 1 ≤ H) : ∃ t, k = t + 1 ∧ H = 2 ^ t := by
  cases k with
  | zero => rw [hH] at h2; simp at h2
  | succ t => exact ⟨t, rfl, by rw [hH, Nat.pow_succ, Nat.mul_div_cancel _ (by omega)]⟩

/-- A whole stage. -/
theorem fwd_stage {m k H o n N : Nat} {q g g' g'' : Nat → Nat} (hm : n = 2 ^ m) (hA : FwdAt m k H q o n N g g') (h2 : 2 ≤ H) (hP : Part H (stF H (fun i => ((q i : Nat) : Int))) o n N g' g'' n) : FwdAt m (k - 1) (H / 2) q o n N g g'' := by
  obtain ⟨hh, hle, hpos, hels, hval⟩ := hA
  obtain ⟨t, rfl, hH⟩ := pow_half hh (by omega)
  have ht : 1 ≤ t := by
    cases t with
    | zero => rw [hH] at h2; simp at h2
    | succ t => omega
  refine ⟨by rw [hH, Nat.add_sub_cancel], by omega, by omega, ⟨fun i hi ho => ?_, hP.els.wd⟩, fun i hi => ?_⟩
  · rw [hP.els.same i hi ho, hels.same i hi ho]
  · rw [Nat.add_sub_cancel]
    refine Cg.trans ?_ (hval i hi)
    rw [fwdB_succ]
    refine fwdB_cg m t _ _ _ (by omega) (fun j hj => ?_) i hi
    have := hP.done j (by omega)
    rw [hH] at this
    exact this

theorem whole_blocks {m k H n s c : Nat} (hm : n = 2 ^ m) (hle : k ≤ m) (hh : H = 2 ^ k / 2) (h1 : 1 ≤ H) (hs : s = c * (2 * H)) (hlt : s < n) : s + 2 * H ≤ n := by
  obtain ⟨t, rfl, hH⟩ := pow_half hh h1
  obtain ⟨d, hd⟩ := Nat.exists_eq_add_of_le hle
  have e : n = 2 ^ d * (2 * H) := by rw [hm, hd, hH, Nat.add_comm (t + 1) d, Nat.pow_add, Nat.pow_succ, Nat.mul_comm 2]
  rw [e] at hlt ⊢
  rw [hs] at hlt ⊢
  have hcd : c < 2 ^ d := by
    by_cases h : c < 2 ^ d
    · exact h
    · have : 2 ^ d * (2 * H) ≤ c * (2 * H) := Nat.mul_le_mul_right _ (by omega)
      omega
  have : (c + 1) * (2 * H) ≤ 2 ^ d * (2 * H) := Nat.mul_le_mul_right _ hcd
  rw [Nat.succ_mul] at this
  exact this

/-- The last stage: pairs. -/
def pairG (o s : Nat) (g : Nat → Nat) (i : Nat) : Nat := if i = o + (s + 1) then subM (g (o + s)) (g (o + (s + 1))) else if i = o + s then addM (g (o + s)) (g (o + (s + 1))) else g i

theorem pair_fresh {o s i : Nat} {g : Nat → Nat} (h1 : i ≠ o + s) (h2 : i ≠ o + (s + 1)) : pairG o s g i = g i := by
  unfold pairG
  rw [if_neg h2, if_neg h1]

theorem fwd_pair {o n N : Nat} {W : Nat → Int} {g g' : Nat → Nat} {s : Nat} (hW : Cg (W 1) 1) (hP : Part 1 (stF 1 W) o n N g g' s) (hs : s + 1 < n) (hn : o + n ≤ N) : Part 1 (stF 1 W) o n N g (pairG o s g') (s + 2) := by
  obtain ⟨⟨hsame, hwd⟩, hdone, hleft, c, hc⟩ := hP
  refine ⟨⟨?_, ?_⟩, ?_, ?_, c + 1, by omega⟩
  · intro i hi ho
    rw [pair_fresh (by omega) (by omega)]
    exact hsame i hi ho
  · intro i hi
    unfold pairG
    split
    · exact subM_lt _ _
    · split
      · exact addM_lt _ _
      · exact hwd i hi
  · intro i hi
    have w1 := hwd (o + s) (by omega)
    have w2 := hwd (o + (s + 1)) (by omega)
    rw [hleft s (by omega) (by omega)] at w1
    rw [hleft (s + 1) (by omega) (by omega)] at w2
    by_cases h1 : i < s
    · have := hdone i h1
      unfold seen at *
      rw [pair_fresh (by omega) (by omega)]
      exact this
    · unfold seen pairG stF
      by_cases h2 : i = s
      · subst h2
        rw [if_neg (by omega), if_pos rfl, if_pos (by omega), hleft i (by omega) (by omega), hleft (i + 1) (by omega) (by omega)]
        exact cg_addM _ _ w1 w2
      · have h3 : i = s + 1 := by omega
        subst h3
        rw [if_pos rfl, if_neg (by omega), hleft s (by omega) (by omega), hleft (s + 1) (by omega) (by omega)]
        have e : (s + 1) % (2 * 1) = 1 := by omega
        rw [e, Nat.add_sub_cancel]
        refine (cg_subM _ _ w1 w2).trans (Cg.trans (Cg.of_eq (Int.mul_one _).symm) ((Cg.refl _).mul hW.symm))
  · intro i h1 h2
    rw [pair_fresh (by omega) (by omega)]
    exact hleft i (by omega) h2

/-- What the whole call leaves. -/
structure FwdEnd (m : Nat) (q : Nat → Nat) (o n N : Nat) (g g' : Nat → Nat) : Prop where
  els : Else o n N g g'
  val : ∀ i, i < n → Cg (seen o g' i) (fwd m (fun i => ((q i : Nat) : Int)) (seen o g) i)

theorem fwd_end {m k H o n N s : Nat} {q g g' g'' : Nat → Nat} (hm : n = 2 ^ m) (hA : FwdAt m k H q o n N g g') (hH : H ≤ 1) (hP : Part 1 (stF 1 (fun i => ((q i : Nat) : Int))) o n N g' g'' s) (hs : s ≤ n) (hs2 : n ≤ s + 1) : FwdEnd m q o n N g g'' := by
  obtain ⟨hh, hle, hpos, hels, hval⟩ := hA
  refine ⟨⟨fun i hi ho => ?_, hP.els.wd⟩, fun i hi => ?_⟩
  · rw [hP.els.same i hi ho, hels.same i hi ho]
  by_cases hk : k = 0
  · subst hk
    have hm0 : m = 0 := by omega
    subst hm0
    have hn1 : n = 1 := by simpa using hm
    have hi0 : i = 0 := by omega
    subst hi0
    have := hval 0 (by simp)
    rw [fwdB_zero] at this
    obtain ⟨c, hc⟩ := hP.mult
    have hs0 : s = 0 := by omega
    have e := hP.left 0 (by omega) (by omega)
    unfold seen at *
    rw [e]
    exact this
  · have hk1 : k = 1 := by
      cases k with
      | zero => omega
      | succ t =>
        rw [Nat.pow_succ, Nat.mul_div_cancel _ (by omega)] at hh
        cases t with
        | zero => rfl
        | succ t =>
          rw [Nat.pow_succ] at hh
          have := Nat.two_pow_pos t
          omega
    subst hk1
    have hev : ∃ c, n = 2 * c := by
      cases m with
      | zero => omega
      | succ m => exact ⟨2 ^ m, by rw [hm, Nat.pow_succ, Nat.mul_comm]⟩
    obtain ⟨c, hc⟩ := hP.mult
    obtain ⟨d, hd⟩ := hev
    have hsn : s = n := by omega
    have h1 := hP.done i (by omega)
    have h2 := hval i (by omega)
    have h3 := fwdB_succ 0 (fun i => ((q i : Nat) : Int)) (seen o g') i
    rw [fwdB_zero] at h3
    rw [show (1 : Nat) = 0 + 1 from rfl, h3] at h2
    exact h1.trans h2

end Go.Proofs.Qxb6003749a
