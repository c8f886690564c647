/-
  zzBytes_FnAppendPathCollapsesRuns (7), stringsBytes (8), cloneStrings (9), walked.
-/
import Derived.Test.Qxb6003764aStrMem
import Derived.WalkSpells
import Derived.Deep.OwnRows
namespace Go.Proofs.Qxb6003764a.Str
open Go.RowKit Go.Deep

theorem Try.info9 : (Try.prog.info? 9).map (fun i => (i.zero, i.size, i.bytes)) = some (some (.string ByteArray.empty), 1, 16) := by kernel_rfl

def RetBytes (w : World) (f : Nat → ByteArray) (n : Nat) (e : Ending) (w' : World) : Prop := ∃ g : Bool, e = .returned (.bool g) ∧ (g = true → n ≤ 1048576 ∧ ∀ j, j < n → (f j).size ≤ 1048576) ∧ w' = w

set_option maxHeartbeats 1000000 in
theorem zzBytes_any (a : Option Addr) (n cap : Nat) (f : Nat → ByteArray) (w : World) {S : Nat → Prop} (h : Rd S w a n f) : Calls Try.prog 7 #[.slice a n cap] w (RetBytes w f n) := by
  by_cases h1 : 1048576 < n
  · clear h
    go_enter Try.func7, Try.ntmps7
    go_wp2
    go_ret
    exact ⟨false, rfl, fun e => (by cases e), rfl⟩
  go_enter Try.func7, Try.ntmps7
  go_wp2
  go_loop [3, 4] (fun zs is => ∃ z i : Nat, zs = .int .i64 (z : Int) ∧ is = .int .i64 (i : Int) ∧ z ≤ 1048576 ∧ i ≤ n ∧ Hid (∀ j, j < i → (f j).size ≤ 1048576)) (fun _ is => n - (intOf is).toNat)
  case atStart => exact ⟨n, 0, rfl, rfl, by omega, Nat.zero_le _, fun j hj => absurd hj (by omega)⟩
  case round =>
    obtain ⟨z, i, rfl, rfl, hz, hi, hI⟩ := hrel
    by_cases hlt : i < n
    · rcases h with h | ⟨b, o, rfl, hS, hc⟩
      · omega
      have c1 := hc i hlt
      clear hc
      by_cases hs : 1048576 < (f i).size
      · go_wp2
        go_ret
        exact ⟨false, rfl, fun e => (by cases e), rfl⟩
      · by_cases hs2 : 1048576 < z + (f i).size
        · go_wp2
          go_ret
          exact ⟨false, rfl, fun e => (by cases e), rfl⟩
        · have HN : Hid (∀ j, j < i + 1 → (f j).size ≤ 1048576) := fun j hj => by
            by_cases e : j = i
            · rw [e]; omega
            · exact hI.out j (by omega)
          go_wp2
          go_round
          case rel => exact ⟨z + (f i).size, i + 1, by go_num, by go_num, by omega, by omega, HN⟩
          case measure => simp [intOf]; omega
    · go_wp2
      go_ret
      exact ⟨true, rfl, fun _ => ⟨by omega, fun j hj => hI.out j (by omega)⟩, rfl⟩

def RetNum (w : World) (e : Ending) (w' : World) : Prop := ∃ t : Nat, e = .returned (.int .i64 (t : Int)) ∧ w' = w

set_option maxHeartbeats 1000000 in
theorem stringsBytes_any (a : Option Addr) (n cap : Nat) (f : Nat → ByteArray) (w : World) {S : Nat → Prop} (h : Rd S w a n f) (hn : n ≤ 1048576) (hf : Hid (∀ j, j < n → (f j).size ≤ 1048576)) : Calls Try.prog 8 #[.slice a n cap] w (RetNum w) := by
  go_enter Try.func8, Try.ntmps8
  go_wp2
  go_loop [3, 4] (fun zs is => ∃ z i : Nat, zs = .int .i64 (z : Int) ∧ is = .int .i64 (i : Int) ∧ z ≤ 1048576 ∧ i ≤ n) (fun _ is => n - (intOf is).toNat)
  case atStart => exact ⟨0, 0, rfl, rfl, by omega, Nat.zero_le _⟩
  case round =>
    obtain ⟨z, i, rfl, rfl, hz, hi⟩ := hrel
    by_cases hlt : i < n
    · rcases h with h | ⟨b, o, rfl, hS, hc⟩
      · omega
      have c1 := hc i hlt
      have hs := hf.out i hlt
      clear hc
      by_cases hs2 : 1048576 < z + (8 + (f i).size)
      · go_wp2
        go_ret
        exact ⟨z + (8 + (f i).size), by go_num, rfl⟩
      · go_wp2
        go_round
        case rel => exact ⟨z + (8 + (f i).size), i + 1, by go_num, by go_num, by omega, by omega⟩
        case measure => simp [intOf]; omega
    · go_wp2
      go_ret
      exact ⟨z, rfl, rfl⟩

theorem mk22 (n : Nat) (h : n ≤ 1048576) :
    ∀ w : World, (Instr.makeSlice 22 (.int .i64 (n : Int)) (.int .i64 (n : Int))).run Try.prog w = .ok (.slice (some ⟨w.heap.size, 0, none⟩) n n) (w.alloc (.cells (rowOf n fun _ => ByteArray.empty) 9)) := by
  intro w
  obtain ⟨i, hi, hz0, hz1, hz2⟩ := info_parts Try.info9
  have hr := run_make (P := Try.prog) w 22 9 i (.string ByteArray.empty) Try.underlying22 hi hz0 .i64 .i64 n n (by omega) (by omega) (by rw [hz2]; omega) (by omega)
  rw [hr, hz1]
  simp only [Int.toNat_natCast, Nat.mul_one]
  have : Value.cells (.string ByteArray.empty) = #[.string ByteArray.empty] := rfl
  rw [this, made_row]

/-- A slice of the strings f comes back, nothing that was there has turned. -/
def RetSl (w : World) (n : Nat) (f : Nat → ByteArray) (e : Ending) (w' : World) : Prop := ∃ a' c', e = .returned (.slice a' n c') ∧ Rd (fun b => w.heap.size ≤ b) w' a' n f ∧ w.grownBy w' none

theorem put_step {w wr : World} {b e n k : Nat} {g : Nat → ByteArray} (hb : Blk wr b e n (fun j => if j < k then g j else ByteArray.empty)) (hg : w.grownBy wr none) (hw : w.heap.size ≤ b) :
    Blk (wr.setCell ⟨b, k, none⟩ (.string (g k))) b e n (fun j => if j < k + 1 then g j else ByteArray.empty) ∧ w.grownBy (wr.setCell ⟨b, k, none⟩ (.string (g k))) none := by
  refine ⟨(hb.set k (g k)).congr fun j _ => ?_, grown_new (grown_set (grown_any hg) k _) hw⟩
  by_cases h1 : j = k
  · subst h1; simp
  · by_cases h2 : j < k
    · rw [if_neg h1, if_pos h2, if_pos (by omega)]
    · rw [if_neg h1, if_neg h2, if_neg (by omega)]

set_option maxHeartbeats 400000 in
theorem cloneStrings_any (a : Option Addr) (n cap : Nat) (f : Nat → ByteArray) (w : World) {S : Nat → Prop} (h : Rd S w a n f) (hn : n ≤ 1048576) (h0 : a = none → n = 0) :
    Calls Try.prog 9 #[.slice a n cap] w (RetSl w n f) := by
  cases a with
  | none =>
    obtain rfl := h0 rfl
    have hnil := fun (w : World) => Lib.run_eql_slice_nil (P := Try.prog) w 22 9 none 0 cap 0 0 Try.underlying22
    go_enter Try.func9, Try.ntmps9
    go_wp2
    go_ret
    exact ⟨_, _, rfl, .inl rfl, grown_refl _ _⟩
  | some a =>
  have hnil := fun (w : World) => Lib.run_eql_slice_nil (P := Try.prog) w 22 9 (some a) n cap 0 0 Try.underlying22
  have hmk := mk22 n hn
  go_enter Try.func9, Try.ntmps9
  go_wp2
  clear hnil hmk
  go_loopw [4] (fun i wr => ∃ k : Nat, k ≤ n ∧ i = .int .i64 k ∧ Blk wr w.heap.size 9 n (fun j => if j < k then f j else ByteArray.empty) ∧ w.grownBy wr none) (fun i _ => n - (intOf i).toNat)
  case atStart => exact ⟨0, Nat.zero_le _, rfl, (blk_alloc w 9 n _).congr (fun j _ => by simp), grown_alloc _ _ _⟩
  case round =>
    obtain ⟨k, hk, rfl, hb, hg⟩ := hrel
    by_cases hlt : k < n
    · rcases h with h | ⟨b, o, ha, hbB, hc⟩
      · omega
      obtain rfl := Option.some.inj ha
      have hcx : wr.cell? ⟨b, o + k, none⟩ = some (.string (f k)) := cell_kept hg (by intro e; cases e) (hc k hlt)
      have hz := hb.cell hlt
      have hf := hb.free k
      have R := put_step hb hg (Nat.le_refl _)
      have HR : Hid _ := R
      clear R hc hb hg
      go_wp2
      go_roundw
      case rel => exact ⟨k + 1, by omega, by go_num, HR.out.1, HR.out.2⟩
      case measure => simp [intOf]; omega
    · have hkn : k = n := by omega
      subst hkn
      go_wp2
      go_ret
      exact ⟨_, _, rfl, (hb.congr (g := f) (fun j hj => by simp [hj])).rd (Nat.le_refl _), hg⟩

end Go.Proofs.Qxb6003764a.Str
