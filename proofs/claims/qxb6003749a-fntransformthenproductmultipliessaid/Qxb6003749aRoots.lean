/-
  roots (36), ZZRoots (16): the table of the roots of unity.
-/
import Derived.Test.Qxb6003749aStage
import Derived.Test.Qxb6003749aClone
import Derived.Test.Qxb6003749aNtt2
namespace Go.Proofs.Qxb6003749a
open Go.RowKit Go.Deep

/-- The levels of the table from k on are laid. -/
def Levels (m k : Nat) (S : Int) (g : Nat → Nat) : Prop := ∀ t, k ≤ t → t < m → ∀ j, j < 2 ^ t → Cg ((g (2 ^ t + j) : Nat) : Int) (S ^ (j * 2 ^ (m - 1 - t)))

/-- The table comes back in a new row. -/
def RetTab (w : World) (n m E : Nat) (e : Ending) (w' : World) : Prop :=
  ∃ b g S, e = .returned (.slice (some ⟨b, 0, none⟩) n n) ∧ w.heap.size ≤ b ∧ Blk w' b 27 n g ∧ (∀ i, i < n → Wd (g i)) ∧ Cg S ((7 : Int) ^ E) ∧ Levels m 0 S g ∧ w.grownBy w' none

theorem wd_zero : Wd 0 := by unfold Wd; decide
theorem wd_one : Wd 1 := by unfold Wd; decide

/-- A store of a word into a row. -/
theorem wd_set {n : Nat} {g : Nat → Nat} (h : ∀ i, i < n → Wd (g i)) (k v : Nat) (hv : Wd v) : ∀ i, i < n → Wd ((fun i => if i = k then v else g i) i) := by
  intro i hi
  show Wd (if i = k then v else g i)
  split
  · exact hv
  · exact h i hi

/-- The first loop: of the upper half the first j words are laid. -/
def Upper (h : Nat) (S : Int) (g : Nat → Nat) (j : Nat) : Prop := ∀ i, i < j → Cg ((g (h + i) : Nat) : Int) (S ^ i)

theorem upper_step {h j x : Nat} {S : Int} {g : Nat → Nat} (hU : Upper h S g j) (hx : Cg (x : Int) (S ^ j)) : Upper h S (fun i => if i = h + j then x else g i) (j + 1) := by
  intro i hi
  show Cg (((if h + i = h + j then x else g (h + i) : Nat)) : Int) (S ^ i)
  by_cases hc : i = j
  · subst hc
    rw [if_pos rfl]
    exact hx
  · rw [if_neg (by omega)]
    exact hU i (by omega)

theorem upper_levels {n m : Nat} {S : Int} {g : Nat → Nat} (hm : n = 2 ^ m) (hU : Upper (n / 2) S g (n / 2)) : Levels m (m - 1) S g := by
  intro t h1 h2 j hj
  have ht : t = m - 1 := by omega
  have hh : n / 2 = 2 ^ t := by
    rw [hm, show m = t + 1 by omega, Nat.pow_succ, Nat.mul_div_cancel _ (by omega)]
  have := hU j (by omega)
  rw [hh] at this
  rw [show m - 1 - t = 0 by omega, Nat.pow_zero, Nat.mul_one]
  exact this

/-- The inner loop: the level t, as far as j. -/
def Level (m t : Nat) (S : Int) (g : Nat → Nat) (j : Nat) : Prop := Levels m (t + 1) S g ∧ ∀ i, i < j → Cg ((g (2 ^ t + i) : Nat) : Int) (S ^ (i * 2 ^ (m - 1 - t)))

theorem level_step {m t j : Nat} {S : Int} {g : Nat → Nat} (hL : Level m t S g j) (ht : t + 2 ≤ m) (hj : j < 2 ^ t) : Level m t S (fun i => if i = 2 ^ t + j then g (2 * 2 ^ t + 2 * j) else g i) (j + 1) := by
  refine ⟨?_, ?_⟩
  · intro u h1 h2 i hi
    have hp : 2 ^ t + 2 ^ t ≤ 2 ^ u := by
      have := Nat.pow_le_pow_right (n := 2) (by omega) h1
      rw [Nat.pow_succ] at this
      omega
    show Cg (((if 2 ^ u + i = 2 ^ t + j then _ else g (2 ^ u + i) : Nat)) : Int) _
    rw [if_neg (by omega)]
    exact hL.1 u h1 h2 i hi
  · intro i hi
    show Cg (((if 2 ^ t + i = 2 ^ t + j then g (2 * 2 ^ t + 2 * j) else g (2 ^ t + i) : Nat)) : Int) _
    by_cases hc : i = j
    · subst hc
      rw [if_pos rfl]
      have h1 := hL.1 (t + 1) (Nat.le_refl _) (by omega) (2 * i) (by rw [Nat.pow_succ]; omega)
      rw [Nat.pow_succ, Nat.mul_comm (2 ^ t) 2] at h1
      have e : 2 * i * 2 ^ (m - 1 - (t + 1)) = i * 2 ^ (m - 1 - t) := by
        rw [show m - 1 - t = (m - 1 - (t + 1)) + 1 by omega, Nat.pow_succ, Nat.mul_comm 2 i, Nat.mul_assoc, Nat.mul_comm 2]
      rw [e] at h1
      exact h1
    · rw [if_neg (by omega)]
      exact hL.2 i (by omega)

theorem level_start {m t : Nat} {S : Int} {g : Nat → Nat} (h : Levels m (t + 1) S g) : Level m t S g 0 := ⟨h, fun i hi => absurd hi (by omega)⟩
theorem level_end {m t : Nat} {S : Int} {g : Nat → Nat} (h : Level m t S g (2 ^ t)) : Levels m t S g := by
  intro u h1 h2 j hj
  by_cases hc : u = t
  · subst hc
    exact h.2 j hj
  · exact h.1 u (by omega) h2 j hj

/-- Half of what is left. -/
def At (m k H : Nat) (S : Int) (g : Nat → Nat) : Prop := H = 2 ^ k / 2 ∧ k ≤ m ∧ (k + 1 ≤ m ∨ m = 0) ∧ Levels m k S g

theorem at_start {n m : Nat} {S : Int} {g : Nat → Nat} (hm : n = 2 ^ m) (hU : Upper (n / 2) S g (n / 2)) : At m (m - 1) (n / 4) S g := by
  refine ⟨?_, by omega, by omega, upper_levels hm hU⟩
  by_cases h : m = 0
  · subst h; subst hm; rfl
  · rw [hm, show m = (m - 1) + 1 by omega, Nat.pow_succ, Nat.add_sub_cancel]
    omega

theorem at_pos {m k H : Nat} {S : Int} {g : Nat → Nat} (h : At m k H S g) (hp : 1 ≤ H) : ∃ t, k = t + 1 ∧ H = 2 ^ t ∧ t + 2 ≤ m ∧ Levels m (t + 1) S g := by
  obtain ⟨h1, h2, h3, h4⟩ := h
  cases k with
  | zero => rw [h1] at hp; simp at hp
  | succ t => exact ⟨t, rfl, by rw [h1, Nat.pow_succ, Nat.mul_div_cancel _ (by omega)], by omega, h4⟩

theorem at_next {m t H : Nat} {S : Int} {g : Nat → Nat} (hH : H = 2 ^ t) (ht : t + 2 ≤ m) (h : Levels m t S g) : At m t (H / 2) S g := ⟨by rw [hH], by omega, by omega, h⟩

theorem at_zero {m k : Nat} {S : Int} {g : Nat → Nat} (h : At m k 0 S g) : Levels m 0 S g := by
  obtain ⟨h1, h2, h3, h4⟩ := h
  cases k with
  | zero => exact h4
  | succ t =>
    rw [Nat.pow_succ, Nat.mul_div_cancel _ (by omega)] at h1
    have := Nat.two_pow_pos t
    omega

set_option maxHeartbeats 2000000 in
theorem roots_any (n m E : Nat) (hm : Hid (n = 2 ^ m)) (hn1 : 1 ≤ n) (hn : n ≤ 8192) (hE : (18446744069414584320 : Int) / (n : Int) = (E : Int)) (hEw : Wd E) (w : World) :
    Calls Try.prog 36 #[.int .i64 (n : Int)] w (RetTab w n m E) := by
  have hmk := mk25 n (by omega)
  have h7 : Wd 7 := by unfold Wd; decide
  go_enter Try.func36, Try.ntmps36
  go_wp2_with fail
  refine (powMod_any 7 E h7 hEw _).mono ?_
  rintro e w' ⟨st, rfl, hst, hcst, hw'⟩
  obtain rfl := hw'.symm
  have HC : Hid (Cg (st : Int) ((7 : Int) ^ E)) := hcst
  clear hcst hE hmk
  go_wp2_with fail
  go_loopw [6, 19] (fun xs is wr => ∃ (j x : Nat) (g : Nat → Nat), j ≤ n / 2 ∧ is = .int .i64 (j : Int) ∧ xs = .int .u64 (x : Int) ∧ Wd x ∧ Hid (Cg (x : Int) ((st : Int) ^ j)) ∧ Blk wr w.heap.size 27 n g ∧ Hid (∀ i, i < n → Wd (g i)) ∧ Hid (Upper (n / 2) (st : Int) g j) ∧ w.grownBy wr none) (fun _ is _ => n / 2 - (intOf is).toNat)
  case atStart => exact ⟨0, 1, fun _ => 0, Nat.zero_le _, rfl, rfl, wd_one, Cg.of_eq (by simp), blk_alloc w 27 n _, fun _ _ => wd_zero, fun i hi => absurd hi (by omega), grown_alloc _ _ _⟩
  case round =>
    obtain ⟨j, x, g, hj, rfl, rfl, hx, hcx, hb, hwd, hU, hg⟩ := hrel
    by_cases hlt : j < n / 2
    · have c1 := hb.cell (j := n / 2 + j) (by omega)
      have f1 := hb.free (n / 2 + j)
      have HB : Hid (Blk (wr.setCell ⟨w.heap.size, n / 2 + j, none⟩ (.int .u64 (x : Int))) w.heap.size 27 n (fun i => if i = n / 2 + j then x else g i) ∧ w.grownBy (wr.setCell ⟨w.heap.size, n / 2 + j, none⟩ (.int .u64 (x : Int))) none) :=
        ⟨hb.set _ _, grown_new (grown_set (grown_any hg) _ _) (Nat.le_refl _)⟩
      clear hb hg
      go_wp2_with (go_at_call 42; refine (mulMod_cg x st hx hst _).mono ?_; rintro e w' ⟨x2, rfl, hx2, hcx2, hw'⟩; obtain rfl := hw'.symm)
      go_roundw
      case rel => exact ⟨j + 1, x2, _, by omega, by go_num, rfl, hx2, by rw [Int.pow_succ]; exact hcx2.trans (hcx.out.mul (Cg.refl _)), HB.out.1, wd_set hwd.out _ _ hx, upper_step hU.out hcx.out, HB.out.2⟩
      case measure => simp [intOf]; omega
    · have hjn : j = n / 2 := by omega
      subst hjn
      have HA : Hid (At m (m - 1) (n / 4) (st : Int) g) := at_start hm.out hU.out
      clear hU hcx
      go_wp2_with fail
      go_loopw [8] (fun hs wr => ∃ (k H : Nat) (g : Nat → Nat), hs = .int .i64 (H : Int) ∧ 4 * H ≤ n ∧ Hid (At m k H (st : Int) g) ∧ Blk wr w.heap.size 27 n g ∧ Hid (∀ i, i < n → Wd (g i)) ∧ w.grownBy wr none) (fun hs _ => (intOf hs).toNat)
      case atStart => exact ⟨m - 1, n / 4, g, by go_num, by omega, HA, hb, hwd, hg⟩
      case round =>
        clear hb hg HA hwd
        obtain ⟨k, H, g, rfl, h4, hA, hb, hwd, hg⟩ := hrel
        by_cases hH : 1 ≤ H
        · obtain ⟨t, hk, hHt, htm, hLv⟩ := at_pos hA.out hH
          have HT : Hid (H = 2 ^ t) := hHt
          have HM : Hid (t + 2 ≤ m) := htm
          have HL : Hid (Level m t (st : Int) g 0) := level_start hLv
          clear hk hHt hLv hA htm
          go_wp2_with fail
          go_loopw [39] (fun js wr => ∃ (j : Nat) (g : Nat → Nat), j ≤ H ∧ js = .int .i64 (j : Int) ∧ Hid (Level m t (st : Int) g j) ∧ Blk wr w.heap.size 27 n g ∧ Hid (∀ i, i < n → Wd (g i)) ∧ w.grownBy wr none) (fun js _ => H - (intOf js).toNat)
          case atStart => exact ⟨0, g, Nat.zero_le _, rfl, HL, hb, hwd, hg⟩
          case round =>
            clear hb hg HL hwd
            obtain ⟨j, g, hj, rfl, hL, hb, hwd, hg⟩ := hrel
            by_cases hlt : j < H
            · have c1 := hb.cell (j := H + j) (by omega)
              have f1 := hb.free (H + j)
              have c2 := hb.cell (j := 2 * H + 2 * j) (by omega)
              have HB : Hid (Blk (wr.setCell ⟨w.heap.size, H + j, none⟩ (.int .u64 ((g (2 * H + 2 * j) : Nat) : Int))) w.heap.size 27 n (fun i => if i = H + j then g (2 * H + 2 * j) else g i) ∧ w.grownBy (wr.setCell ⟨w.heap.size, H + j, none⟩ (.int .u64 ((g (2 * H + 2 * j) : Nat) : Int))) none) :=
                ⟨hb.set _ _, grown_new (grown_set (grown_any hg) _ _) (Nat.le_refl _)⟩
              clear hb hg
              go_wp2_with fail
              go_roundw
              case rel =>
                refine ⟨j + 1, _, by omega, by go_num, ?_, HB.out.1, wd_set hwd.out _ _ (hwd.out _ (by omega)), HB.out.2⟩
                have e := HT.out
                have := level_step hL.out HM.out (by omega)
                rw [← e] at this
                exact this
              case measure => simp [intOf]; omega
            · have hjH : j = H := by omega
              subst hjH
              have HA : Hid (At m t (j / 2) (st : Int) g) := at_next HT.out HM.out (level_end (by rw [← HT.out]; exact hL.out))
              go_wp2_with fail
              go_roundw
              case rel => exact ⟨t, j / 2, g, by go_num, by omega, HA, hb, hwd, hg⟩
              case measure => simp [intOf]; omega
        · have hH0 : H = 0 := by omega
          subst hH0
          go_wp2_with fail
          go_ret
          exact ⟨_, g, (st : Int), rfl, Nat.le_refl _, hb, hwd.out, HC.out, at_zero hA.out, hg⟩

end Go.Proofs.Qxb6003749a
