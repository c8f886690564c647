/-
  splitStage (47), joinStage (50): one block of a stage.
-/
import Derived.Test.Qxb6003749aPow
import Derived.Test.Qxb6003749aSplit
import Derived.RegionTactic
import Derived.ChangeAlike
import Derived.Deep.RegionHeld3
namespace Go.Proofs.Qxb6003749a
open Go.RowKit Go.Deep

theorem set_cell_other {w : World} {b o b' o' : Nat} {v x : Value} (h : b ≠ b' ∨ o ≠ o') (hc : w.cell? ⟨b', o', none⟩ = some x) : (w.setCell ⟨b, o, none⟩ v).cell? ⟨b', o', none⟩ = some x := by
  rw [← hc]
  refine World.cell?_setCell_other w ⟨b, o, none⟩ ⟨b', o', none⟩ v ?_
  intro e
  injection e with e1 e2
  rcases h with h | h
  · exact h e1
  · exact h e2

/-- The row behind j rounds of splitStage. -/
def splitG (ox oy ow : Nat) (g q : Nat → Nat) (j i : Nat) : Nat :=
  if ox ≤ i ∧ i < ox + j then addM (g i) (g (i - ox + oy)) else if oy ≤ i ∧ i < oy + j then mulM (subM (g (i - oy + ox)) (g i)) (q (ow + (i - oy))) else g i

theorem splitG_step {w wr : World} {b N : Nat} {ox oy ow j : Nat} {g q : Nat → Nat} (hd : ox + j < oy) (hb : Blk wr b 27 N (splitG ox oy ow g q j)) (hg : w.grownBy wr (some b)) :
    Blk ((wr.setCell ⟨b, ox + j, none⟩ (.int .u64 ((addM (g (ox + j)) (g (oy + j)) : Nat) : Int))).setCell ⟨b, oy + j, none⟩ (.int .u64 ((mulM (subM (g (ox + j)) (g (oy + j))) (q (ow + j)) : Nat) : Int))) b 27 N (splitG ox oy ow g q (j + 1)) ∧
    w.grownBy ((wr.setCell ⟨b, ox + j, none⟩ (.int .u64 ((addM (g (ox + j)) (g (oy + j)) : Nat) : Int))).setCell ⟨b, oy + j, none⟩ (.int .u64 ((mulM (subM (g (ox + j)) (g (oy + j))) (q (ow + j)) : Nat) : Int))) (some b) := by
  refine ⟨((hb.set _ _).set _ _).congr fun i hi => ?_, grown_set (grown_set hg _ _) _ _⟩
  unfold splitG
  by_cases h1 : i = oy + j
  · subst h1
    rw [if_pos rfl, if_neg (by omega), if_pos (by omega), show oy + j - oy + ox = ox + j by omega, show oy + j - oy = j by omega]
  · rw [if_neg h1]
    by_cases h2 : i = ox + j
    · subst h2
      rw [if_pos rfl, if_pos (by omega), show ox + j - ox + oy = oy + j by omega]
    · rw [if_neg h2]
      by_cases h3 : ox ≤ i ∧ i < ox + j
      · rw [if_pos h3, if_pos (show ox ≤ i ∧ i < ox + (j + 1) by omega)]
      · by_cases h4 : oy ≤ i ∧ i < oy + j
        · rw [if_neg h3, if_pos h4, if_neg (show ¬ (ox ≤ i ∧ i < ox + (j + 1)) by omega), if_pos (show oy ≤ i ∧ i < oy + (j + 1) by omega)]
        · rw [if_neg h3, if_neg h4, if_neg (show ¬ (ox ≤ i ∧ i < ox + (j + 1)) by omega), if_neg (show ¬ (oy ≤ i ∧ i < oy + (j + 1)) by omega)]

theorem splitG_fresh {ox oy ow j i : Nat} {g q : Nat → Nat} (h1 : ¬ (ox ≤ i ∧ i < ox + j)) (h2 : ¬ (oy ≤ i ∧ i < oy + j)) : splitG ox oy ow g q j i = g i := by
  unfold splitG
  rw [if_neg h1, if_neg h2]

set_option maxHeartbeats 2000000 in
theorem splitStage_any (b N : Nat) (g : Nat → Nat) (br nq : Nat) (q : Nat → Nat) (ox oy ow h cx cy cw : Nat) (w : World) (hb0 : Blk w b 27 N g) (hq0 : Blk w br 27 nq q) (hne : br ≠ b) (hx : ox + h ≤ oy) (hy : oy + h ≤ N) (hw : ow + h ≤ nq)
    (hcx : h ≤ cx) (hcy : h ≤ cy) (hcw : h ≤ cw) (hN : N ≤ 1048576) (hg : Hid (∀ i, i < N → Wd (g i))) (hqw : Hid (∀ i, i < nq → Wd (q i))) :
    Calls Try.prog 47 #[.slice (some ⟨b, ox, none⟩) h cx, .slice (some ⟨b, oy, none⟩) h cy, .slice (some ⟨br, ow, none⟩) h cw] w (Wrote w b 27 N (splitG ox oy ow g q h)) := by
  go_enter Try.func47, Try.ntmps47
  go_wp2
  go_region
  all_goals go_wp2
  go_loopw [19] (fun is wr => ∃ j : Nat, j ≤ h ∧ is = .int .i64 (j : Int) ∧ Blk wr b 27 N (splitG ox oy ow g q j) ∧ w.grownBy wr (some b)) (fun is _ => h - (intOf is).toNat)
  case atStart => exact ⟨0, Nat.zero_le _, rfl, hb0.congr (fun i _ => (splitG_fresh (by omega) (by omega)).symm), grown_drew (grown_refl _ _)⟩
  case round =>
    obtain ⟨j, hj, rfl, hb, hgr⟩ := hrel
    by_cases hlt : j < h
    · have c1 := hb.cell (j := ox + j) (by omega)
      rw [splitG_fresh (by omega) (by omega)] at c1
      have c2 := hb.cell (j := oy + j) (by omega)
      rw [splitG_fresh (by omega) (by omega)] at c2
      have c3 := (hq0.kept hgr (by intro e; exact hne (Option.some.inj e).symm)).cell (j := ow + j) (by omega)
      have f1 := hb.free (ox + j)
      have f2 := hb.free (oy + j)
      have HR : Hid _ := splitG_step (by omega) hb hgr
      have w1 := hg.out (ox + j) (by omega)
      have w2 := hg.out (oy + j) (by omega)
      have w3 := hqw.out (ow + j) (by omega)
      have w4 : Wd (subM (g (ox + j)) (g (oy + j))) := subM_lt _ _
      clear hb hgr hb0 hq0
      go_wp2_with (go_at_call 48; refine (addMod_any _ _ w1 w2 _).mono ?_; rintro e w' ⟨rfl, hw'⟩; obtain rfl := hw'.symm)
      obtain ⟨wr2, hwr2⟩ : ∃ x, x = wr.setCell ⟨b, ox + j, none⟩ (.int .u64 ((addM (g (ox + j)) (g (oy + j)) : Nat) : Int)) := ⟨_, rfl⟩
      have d3 : wr2.cell? ⟨br, ow + j, none⟩ = some (.int .u64 ((q (ow + j) : Nat) : Int)) := by
        rw [hwr2]; exact set_cell_other (.inl (Ne.symm hne)) c3
      have d2 : wr2.cell? ⟨b, oy + j, none⟩ = some (.int .u64 ((g (oy + j) : Nat) : Int)) := by
        rw [hwr2]; exact set_cell_other (.inr (by omega)) c2
      have k2 : wr2.frozen? ⟨b, oy + j, none⟩ = false := by rw [hwr2]; exact (World.frozen?_setCell _ _ _ _).trans f2
      rw [← hwr2] at HR ⊢
      clear hwr2 c1 c2 c3 f1 f2
      go_region_held3 (fun w' => w'.cell? ⟨br, ow + j, none⟩ = some (.int .u64 ((q (ow + j) : Nat) : Int))) (first | exact d3 | exact set_cell_other (.inl (Ne.symm hne)) d3) (first | (go_at_call 49; refine (subMod_any _ _ w1 w2 _).mono ?_; rintro e w' ⟨rfl, hw'⟩; obtain rfl := hw'.symm) | (go_at_call 42; refine (mulMod_any _ _ w4 w3 _).mono ?_; rintro e w' ⟨rfl, hw'⟩; obtain rfl := hw'.symm))
      go_wp2_with fail
      go_roundw
      case rel => exact ⟨j + 1, by omega, by go_num, HR.out.1, grown_drew HR.out.2⟩
      case measure => simp [intOf]; omega
    · have hjh : j = h := by omega
      subst hjh
      go_wp2_with fail
      go_end0
      exact ⟨rfl, hb, hgr⟩

/-- The row behind j rounds of joinStage. -/
def joinG (ox oy ow : Nat) (g q : Nat → Nat) (j i : Nat) : Nat :=
  if ox ≤ i ∧ i < ox + j then addM (g i) (mulM (g (i - ox + oy)) (q (ow + (i - ox)))) else if oy ≤ i ∧ i < oy + j then subM (g (i - oy + ox)) (mulM (g i) (q (ow + (i - oy)))) else g i

theorem joinG_fresh {ox oy ow j i : Nat} {g q : Nat → Nat} (h1 : ¬ (ox ≤ i ∧ i < ox + j)) (h2 : ¬ (oy ≤ i ∧ i < oy + j)) : joinG ox oy ow g q j i = g i := by
  unfold joinG
  rw [if_neg h1, if_neg h2]

theorem joinG_step {w wr : World} {b N : Nat} {ox oy ow j : Nat} {g q : Nat → Nat} (hd : ox + j < oy) (hb : Blk wr b 27 N (joinG ox oy ow g q j)) (hg : w.grownBy wr (some b)) :
    Blk ((wr.setCell ⟨b, ox + j, none⟩ (.int .u64 ((addM (g (ox + j)) (mulM (g (oy + j)) (q (ow + j))) : Nat) : Int))).setCell ⟨b, oy + j, none⟩ (.int .u64 ((subM (g (ox + j)) (mulM (g (oy + j)) (q (ow + j))) : Nat) : Int))) b 27 N (joinG ox oy ow g q (j + 1)) ∧
    w.grownBy ((wr.setCell ⟨b, ox + j, none⟩ (.int .u64 ((addM (g (ox + j)) (mulM (g (oy + j)) (q (ow + j))) : Nat) : Int))).setCell ⟨b, oy + j, none⟩ (.int .u64 ((subM (g (ox + j)) (mulM (g (oy + j)) (q (ow + j))) : Nat) : Int))) (some b) := by
  refine ⟨((hb.set _ _).set _ _).congr fun i hi => ?_, grown_set (grown_set hg _ _) _ _⟩
  unfold joinG
  by_cases h1 : i = oy + j
  · subst h1
    rw [if_pos rfl, if_neg (by omega), if_pos (by omega), show oy + j - oy + ox = ox + j by omega, show oy + j - oy = j by omega]
  · rw [if_neg h1]
    by_cases h2 : i = ox + j
    · subst h2
      rw [if_pos rfl, if_pos (by omega), show ox + j - ox + oy = oy + j by omega, show ox + j - ox = j by omega]
    · rw [if_neg h2]
      by_cases h3 : ox ≤ i ∧ i < ox + j
      · rw [if_pos h3, if_pos (show ox ≤ i ∧ i < ox + (j + 1) by omega)]
      · by_cases h4 : oy ≤ i ∧ i < oy + j
        · rw [if_neg h3, if_pos h4, if_neg (show ¬ (ox ≤ i ∧ i < ox + (j + 1)) by omega), if_pos (show oy ≤ i ∧ i < oy + (j + 1) by omega)]
        · rw [if_neg h3, if_neg h4, if_neg (show ¬ (ox ≤ i ∧ i < ox + (j + 1)) by omega), if_neg (show ¬ (oy ≤ i ∧ i < oy + (j + 1)) by omega)]

set_option maxHeartbeats 2000000 in
theorem joinStage_any (b N : Nat) (g : Nat → Nat) (br nq : Nat) (q : Nat → Nat) (ox oy ow h cx cy cw : Nat) (w : World) (hb0 : Blk w b 27 N g) (hq0 : Blk w br 27 nq q) (hne : br ≠ b) (hx : ox + h ≤ oy) (hy : oy + h ≤ N) (hw : ow + h ≤ nq)
    (hcx : h ≤ cx) (hcy : h ≤ cy) (hcw : h ≤ cw) (hN : N ≤ 1048576) (hg : Hid (∀ i, i < N → Wd (g i))) (hqw : Hid (∀ i, i < nq → Wd (q i))) :
    Calls Try.prog 50 #[.slice (some ⟨b, ox, none⟩) h cx, .slice (some ⟨b, oy, none⟩) h cy, .slice (some ⟨br, ow, none⟩) h cw] w (Wrote w b 27 N (joinG ox oy ow g q h)) := by
  go_enter Try.func50, Try.ntmps50
  go_wp2
  go_region
  all_goals go_wp2
  go_loopw [19] (fun is wr => ∃ j : Nat, j ≤ h ∧ is = .int .i64 (j : Int) ∧ Blk wr b 27 N (joinG ox oy ow g q j) ∧ w.grownBy wr (some b)) (fun is _ => h - (intOf is).toNat)
  case atStart => exact ⟨0, Nat.zero_le _, rfl, hb0.congr (fun i _ => (joinG_fresh (by omega) (by omega)).symm), grown_drew (grown_refl _ _)⟩
  case round =>
    obtain ⟨j, hj, rfl, hb, hgr⟩ := hrel
    by_cases hlt : j < h
    · have c1 := hb.cell (j := ox + j) (by omega)
      rw [joinG_fresh (by omega) (by omega)] at c1
      have c2 := hb.cell (j := oy + j) (by omega)
      rw [joinG_fresh (by omega) (by omega)] at c2
      have c3 := (hq0.kept hgr (by intro e; exact hne (Option.some.inj e).symm)).cell (j := ow + j) (by omega)
      have f1 := hb.free (ox + j)
      have f2 := hb.free (oy + j)
      have HR : Hid _ := joinG_step (by omega) hb hgr
      have w1 := hg.out (ox + j) (by omega)
      have w2 := hg.out (oy + j) (by omega)
      have w3 := hqw.out (ow + j) (by omega)
      have w4 : Wd (mulM (g (oy + j)) (q (ow + j))) := mulM_lt _ _
      clear hb hgr hb0 hq0
      go_wp2_with fail
      go_region_held3 (fun w' => w'.cell? ⟨b, oy + j, none⟩ = some (.int .u64 ((g (oy + j) : Nat) : Int)) ∧ w'.cell? ⟨br, ow + j, none⟩ = some (.int .u64 ((q (ow + j) : Nat) : Int))) (exact ⟨c2, c3⟩) (first | (go_at_call 42; refine (mulMod_any _ _ w2 w3 _).mono ?_; rintro e w' ⟨rfl, hw'⟩; obtain rfl := hw'.symm))
      go_wp2_with (first | (go_at_call 48; refine (addMod_any _ _ w1 w4 _).mono ?_; rintro e w' ⟨rfl, hw'⟩; obtain rfl := hw'.symm) | (go_at_call 49; refine (subMod_any _ _ w1 w4 _).mono ?_; rintro e w' ⟨rfl, hw'⟩; obtain rfl := hw'.symm))
      go_roundw
      case rel => exact ⟨j + 1, by omega, by go_num, HR.out.1, grown_drew HR.out.2⟩
      case measure => simp [intOf]; omega
    · have hjh : j = h := by omega
      subst hjh
      go_wp2_with fail
      go_end0
      exact ⟨rfl, hb, hgr⟩
end Go.Proofs.Qxb6003749a
