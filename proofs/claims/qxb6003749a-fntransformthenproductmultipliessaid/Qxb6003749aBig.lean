/-
  math/big: nat.norm (57), Int.SetBits (41), Int.Bits (44).
-/
import Derived.Test.Qxb6003749aSmall
import Derived.Test.Qxb6003749aConv
namespace Go.Proofs.Qxb6003749a
open Go.RowKit Go.Deep

theorem sl53_lh (b n i : Nat) (h2 : i ≤ n) (w : World) :
    (Instr.slice 53 (.slice (some ⟨b, 0, none⟩) n n) (some (.int .i64 0)) (some (.int .i64 (i : Int))) none).run Try.prog w = .ok (.slice (some ⟨b, 0, none⟩) i n) w := by
  have hz : (sizeOf (Try.prog.elem 53)).run Try.prog w = .ok 1 w := by kernel_rfl
  rw [run_slice_lh w 53 (some ⟨b, 0, none⟩) n n Try.underlying53 .i64 .i64 0 (i : Int) (by omega) (by omega) (by omega), hz]
  by_cases hn : n = 0
  · simp [Result.andThen, sliced, hn]
  · simp [Result.andThen, sliced, hn, Addr.add_lit]

def RetNorm (w : World) (b n : Nat) (f : Nat → Nat) (e : Ending) (w' : World) : Prop := ∃ i, e = .returned (.slice (some ⟨b, 0, none⟩) i n) ∧ Norm n f i ∧ w' = w

set_option maxHeartbeats 1000000 in
theorem norm_any (b n : Nat) (f : Nat → Nat) (w : World) (hb : Blk w b 61 n f) (hn : n ≤ 1048576) : Calls Try.prog 57 #[.slice (some ⟨b, 0, none⟩) n n] w (RetNorm w b n f) := by
  go_enter Try.func57, Try.ntmps57
  go_wp2
  go_loop [3] (fun is => ∃ i : Nat, i ≤ n ∧ is = .int .i64 (i : Int) ∧ Hid (∀ j, i ≤ j → j < n → f j = 0)) (fun is => (intOf is).toNat)
  case atStart => exact ⟨n, Nat.le_refl _, rfl, fun j h1 h2 => absurd h2 (by omega)⟩
  case round =>
    obtain ⟨i, hi, rfl, hz⟩ := hrel
    have hs := sl53_lh b n i hi
    cases i with
    | zero =>
      have hd : decide ((0 : Int) < ((0 : Nat) : Int)) = false := decide_eq_false (by omega)
      go_wp2
      go_ret
      exact ⟨0, rfl, ⟨Nat.zero_le _, hz.out, .inl rfl⟩, rfl⟩
    | succ j =>
      have c1 := hb.cell (show j < n by omega)
      have e1 : ((j + 1 : Nat) : Int) - 1 = (j : Int) := by omega
      by_cases hf : f j = 0
      · rw [hf] at c1
        have HZ : Hid (∀ t, j ≤ t → t < n → f t = 0) := by
          intro t h1 h2
          by_cases h3 : t = j
          · rw [h3]; exact hf
          · exact hz.out t (by omega) h2
        clear hz hf hb
        go_wp2
        go_round
        case rel => exact ⟨j, by omega, by go_num, HZ⟩
        case measure => simp [intOf]
      · have hne : (((f j : Nat) : Int) == 0) = false := by simp; omega
        have HN : Hid (Norm n f (j + 1)) := ⟨hi, hz.out, .inr (by rw [Nat.add_sub_cancel]; exact hf)⟩
        clear hz hf hb
        go_wp2
        go_ret
        exact ⟨j + 1, rfl, HN.out, rfl⟩

/-- A big.Int in memory. -/
def IntBlk (w : World) (b : Nat) (v0 v1 : Value) : Prop := w.heap[b]? = some (.cells #[v0, v1] 55 (0, 0))

theorem IntBlk.lt {w : World} {b : Nat} {v0 v1 : Value} (h : IntBlk w b v0 v1) : b < w.heap.size := lt_of_block h
theorem IntBlk.kept {w w' : World} {b : Nat} {v0 v1 : Value} {row : Option Nat} (h : IntBlk w b v0 v1) (hg : w.grownBy w' row) (hb : row ≠ some b) : IntBlk w' b v0 v1 := by
  unfold IntBlk
  rw [hg.block b h.lt (fun e => hb e.symm)]
  exact h
theorem IntBlk.cells {w : World} {b : Nat} {v0 v1 : Value} (h : IntBlk w b v0 v1) : w.cell? ⟨b, 0, none⟩ = some v0 ∧ w.cell? ⟨b, 1, none⟩ = some v1 ∧ w.frozen? ⟨b, 0, none⟩ = false ∧ w.frozen? ⟨b, 1, none⟩ = false := by
  refine ⟨?_, ?_, ?_, ?_⟩ <;> simp [World.cell?, World.frozen?, IntBlk] at * <;> simp [h]
theorem IntBlk.set {w : World} {b : Nat} {v0 v1 : Value} (h : IntBlk w b v0 v1) (u0 u1 : Value) : IntBlk ((w.setCell ⟨b, 1, none⟩ u1).setCell ⟨b, 0, none⟩ u0) b u0 u1 := by
  unfold IntBlk
  have h1 := heap_setCell_same w b 1 _ 55 u1 h
  have h2 := heap_setCell_same _ b 0 _ 55 u0 h1
  rw [h2]
  rfl

def RetSet (w : World) (bz b n : Nat) (f : Nat → Nat) (e : Ending) (w' : World) : Prop :=
  ∃ i, e = .returned (.pointer (some ⟨bz, 0, none⟩)) ∧ Norm n f i ∧ IntBlk w' bz (.bool false) (.slice (some ⟨b, 0, none⟩) i n) ∧ w.grownBy w' (some bz)

set_option maxHeartbeats 1000000 in
theorem setBits_any (bz b n : Nat) (f : Nat → Nat) (v0 v1 : Value) (w : World) (hz : IntBlk w bz v0 v1) (hb : Blk w b 61 n f) (hn : n ≤ 1048576) : Calls Try.prog 41 #[.pointer (some ⟨bz, 0, none⟩), .slice (some ⟨b, 0, none⟩) n n] w (RetSet w bz b n f) := by
  have ⟨c0, c1, f0, f1⟩ := hz.cells
  go_enter Try.func41, Try.ntmps41
  go_wp2_with (go_at_call 57; refine (norm_any b n f w hb hn).mono ?_; rintro e w' ⟨i, rfl, hN, hw'⟩; obtain rfl := hw'.symm)
  go_ret
  exact ⟨i, rfl, hN, hz.set _ _, grown_set (grown_set (grown_refl _ _) _ _) _ _⟩

def RetV (w : World) (v : Value) (e : Ending) (w' : World) : Prop := e = .returned v ∧ w' = w

theorem bits_any (bz : Nat) (v0 : Value) (a : Option Addr) (n c : Nat) (w : World) (hz : IntBlk w bz v0 (.slice a n c)) : Calls Try.prog 44 #[.pointer (some ⟨bz, 0, none⟩)] w (RetV w (.slice a n c)) := by
  have ⟨c0, c1, f0, f1⟩ := hz.cells
  go_enter Try.func44, Try.ntmps44
  go_wp2
  go_ret
  exact ⟨rfl, rfl⟩

end Go.Proofs.Qxb6003749a
