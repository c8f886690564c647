/-
  zzCloneBytes (12): a new row of the same bytes.
-/
import Derived.Test.Qxb6003764aMem
import Derived.WalkSpells
import Derived.Deep.OwnRows
namespace Go.Proofs.Qxb6003764a
open Go.RowKit Go.Deep

theorem Try.info5 : (Try.prog.info? 5).map (fun i => (i.zero, i.size, i.bytes)) = some (some (.int .u8 0), 1, 1) := by kernel_rfl

theorem mk27 (n : Nat) (h : n ≤ 1048576) :
    ∀ w : World, (Instr.makeSlice 27 (.int .i64 (n : Int)) (.int .i64 (n : Int))).run Try.prog w = .ok (.slice (some ⟨w.heap.size, 0, none⟩) n n) (w.alloc (.cells (rowOf n fun _ => 0) 5)) := by
  intro w
  obtain ⟨i, hi, hz0, hz1, hz2⟩ := info_parts Try.info5
  have hr := run_make (P := Try.prog) w 27 5 i (.int .u8 0) Try.underlying27 hi hz0 .i64 .i64 n n (by omega) (by omega) (by rw [hz2]; omega) (by omega)
  rw [hr, hz1]
  simp only [Int.toNat_natCast, Nat.mul_one]
  have : Value.cells (.int .u8 0) = #[.int .u8 0] := rfl
  rw [this, made_row]

/-- A slice of the words f comes back, nothing that was there has turned. -/
def RetSl (w : World) (n : Nat) (f : Nat → Nat) (e : Ending) (w' : World) : Prop := ∃ a' c', e = .returned (.slice a' n c') ∧ Rd (fun b => w.heap.size ≤ b) w' a' n f ∧ w.grownBy w' none
/-- A slice over a whole new block of the words f comes back, nothing that was there has turned. -/
def RetNew (w : World) (t : TypeId) (n : Nat) (f : Nat → Nat) (e : Ending) (w' : World) : Prop := ∃ b, e = .returned (.slice (some ⟨b, 0, none⟩) n n) ∧ w.heap.size ≤ b ∧ Blk w' b t n f ∧ w.grownBy w' none

theorem put_step {w wr : World} {b e n k : Nat} {g : Nat → Nat} (hb : Blk wr b e n (fun j => if j < k then g j else 0)) (hg : w.grownBy wr none) (hw : w.heap.size ≤ b) :
    Blk (wr.setCell ⟨b, k, none⟩ (.int .u8 ((g k : Nat) : Int))) b e n (fun j => if j < k + 1 then g j else 0) ∧ w.grownBy (wr.setCell ⟨b, k, none⟩ (.int .u8 ((g k : Nat) : Int))) none := by
  refine ⟨(hb.set k (g k)).congr fun j _ => ?_, grown_new (grown_set (grown_any hg) k _) hw⟩
  by_cases h1 : j = k
  · subst h1; simp
  · by_cases h2 : j < k
    · rw [if_neg h1, if_pos h2, if_pos (by omega)]
    · rw [if_neg h1, if_neg h2, if_neg (by omega)]

set_option maxHeartbeats 400000 in
theorem zzCloneBytes_some (a : Addr) (n cap : Nat) (f : Nat → Nat) (w : World) {S : Nat → Prop} (h : Rd S w (some a) n f) (hn : n ≤ 1048576) :
    Calls Try.prog 12 #[.slice (some a) n cap] w (RetNew w 5 n f) := by
  have hnil := fun (w : World) => Lib.run_eql_slice_nil (P := Try.prog) w 27 5 (some a) n cap 0 0 Try.underlying27
  have hmk := mk27 n hn
  go_enter Try.func12, Try.ntmps12
  go_wp2
  clear hnil hmk
  go_loopw [4] (fun i wr => ∃ k : Nat, k ≤ n ∧ i = .int .i64 k ∧ Blk wr w.heap.size 5 n (fun j => if j < k then f j else 0) ∧ w.grownBy wr none) (fun i _ => n - (intOf i).toNat)
  case atStart => exact ⟨0, Nat.zero_le _, rfl, (blk_alloc w 5 n _).congr (fun j _ => by simp), grown_alloc _ _ _⟩
  case round =>
    obtain ⟨k, hk, rfl, hb, hg⟩ := hrel
    by_cases hlt : k < n
    · rcases h with h | ⟨b, o, ha, hbB, hc⟩
      · omega
      obtain rfl := Option.some.inj ha
      have hcx : wr.cell? ⟨b, o + k, none⟩ = some (.int .u8 ((f k : Nat) : Int)) := cell_kept hg (by intro e; cases e) (hc k hlt)
      have hz := hb.cell hlt
      have hf := hb.free k
      have R := put_step hb hg (Nat.le_refl _)
      have HR : Hid _ := R
      clear R hc hb hg
      go_wp2
      go_roundw
      case rel => exact ⟨k + 1, by omega, by go_num, HR.out.1, HR.out.2⟩
      case measure => simp [intOf]; omega
    · have hkn : k = n := by omega
      subst hkn
      go_wp2
      go_ret
      exact ⟨_, rfl, Nat.le_refl _, hb.congr (fun j hj => by simp [hj]), hg⟩

/-- zzCloneBytes, nil or not. -/
theorem zzCloneBytes (a : Option Addr) (n cap : Nat) (f : Nat → Nat) (w : World) {S : Nat → Prop} (h : Rd S w a n f) (hn : n ≤ 1048576) (h0 : a = none → n = 0) :
    Calls Try.prog 12 #[.slice a n cap] w (RetSl w n f) := by
  cases a with
  | none =>
    obtain rfl := h0 rfl
    have hnil := fun (w : World) => Lib.run_eql_slice_nil (P := Try.prog) w 27 5 none 0 cap 0 0 Try.underlying27
    go_enter Try.func12, Try.ntmps12
    go_wp2
    go_ret
    exact ⟨_, _, rfl, .inl rfl, grown_refl _ _⟩
  | some a =>
    refine (zzCloneBytes_some a n cap f w h hn).mono ?_
    rintro e w' ⟨b, rfl, hb, hblk, hg⟩
    exact ⟨_, _, rfl, hblk.rd hb, hg⟩

end Go.Proofs.Qxb6003764a
