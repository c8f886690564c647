/-
  THE LAW FnVarintReadsOffsetEncoding (3): its walk.
-/
import Derived.Test.Qxb6003763aRead
import Derived.Test.Qxb6003763aWrite
import Derived.Test.Qxb6003763aClone
namespace Go.Proofs.Qxb6003763a
open Go.RowKit Go.Deep

/-! ### The plain part -/
theorem left_le (n : Nat) : ∀ t, left n t ≤ n
  | 0 => Nat.le_refl _
  | 1 => by rw [left]; omega
  | t + 2 => by
    have := left_le n (t + 1)
    rw [left]
    generalize left n (t + 1) = L at *
    omega

theorem read_enc {n k T v sz : Nat} {H : Nat → Nat} (hT : Takes n k) (hH : ∀ j, j < k → H j = rev n (k - 1 - j)) (hkT : k ≤ T) (hn : n < 36028797018963968) (hs : ReadSpec H T v sz) : v = n ∧ sz = k := by
  have hp := hT.pos
  have hlast : H (k - 1) < 128 := by rw [hH (k - 1) (by omega), Nat.sub_self]; exact rev_low n
  have hhigh : ∀ j, j < k - 1 → 128 ≤ H j := fun j hj => by rw [hH j (by omega)]; exact rev_high n _ (by omega)
  rcases hs with ⟨i, hi, h1, h2, h3, h4, _⟩ | ⟨_, _, ⟨i, hi, h1, h2⟩ | h1⟩
  · have hik : i = k - 1 := by
      by_cases hc : i < k - 1
      · have := hhigh i hc; omega
      · by_cases hd : k - 1 < i
        · have := h1 (k - 1) hd; omega
        · omega
    subst hik
    have h5 := read_whole hT hH
    exact ⟨by omega, by omega⟩
  · have hik : i < k - 1 := by
      by_cases hc : i < k - 1
      · exact hc
      · have := h1 (k - 1) (by omega); omega
    have h5 := read_back hT hH (i + 1) (by omega)
    rw [uAt] at h5
    have h6 := left_le n (k - (i + 1))
    omega
  · have := h1 (k - 1) (by omega); omega

/-- The bytes that are gathered. -/
def both (k : Nat) (G t : Nat → Nat) (j : Nat) : Nat := if j < k then G j else t (j - k)

def bytesL (H : Nat → Nat) (i : Nat) : List Value := (List.range i).map fun j => Value.int .u8 ((H j : Nat) : Int)
theorem bytesL_succ (H : Nat → Nat) (i : Nat) : bytesL H (i + 1) = bytesL H i ++ [.int .u8 ((H i : Nat) : Int)] := by
  unfold bytesL
  rw [List.range_succ, List.map_append]
  rfl
theorem bytesL_get (H : Nat → Nat) (i j : Nat) (h : j < i) : (bytesL H i)[j]? = some (.int .u8 ((H j : Nat) : Int)) := by
  unfold bytesL
  simp [h]

/-- A true law: nothing that was there has turned. -/
def LawTrue (w : World) (e : Ending) (w' : World) : Prop := e = .returned (.bool true) ∧ w.grownBy w' none

/-- A row that did not lie there at the start may be written freely. -/
theorem grown_far {a b c : World} {row : Option Nat} {s : Nat} (h : a.grownBy b row) (k : b.grownBy c (some s)) (hs : a.heap.size ≤ s) : a.grownBy c row :=
  ⟨k.os.trans h.os, k.tape.trans h.tape, k.output.trans h.output, Nat.le_trans h.size k.size, fun i hi hn => (k.block i (Nat.lt_of_lt_of_le hi h.size) (fun e => by injection e; omega)).trans (h.block i hi hn)⟩

theorem own_lt {w : World} {base g n cap : Nat} {xs : List Value} (hown : w.ownsRow base 5 1 (.slice (some ⟨g, 0, none⟩) n cap) n xs) : g < w.heap.size := by
  rcases hown.2 with ⟨h1, _⟩ | ⟨g', cap', cur, h1, _, h2, _⟩
  · simp at h1
  · simp only [Value.slice.injEq, Option.some.injEq, Addr.mk.injEq, and_true, true_and] at h1
    obtain ⟨rfl, rfl⟩ := h1
    exact lt_of_block h2

/-- What one append leaves of the other rows. -/
theorem app_kept {w wr w4 : World} {o : Obj} {g be len : Nat} {G t : Nat → Nat} {ta : Option Addr} (hg4 : (wr.alloc o).grownBy w4 (some g)) (hge : g = be + 1) (hsz : w.heap.size ≤ be) (hE : Blk wr be 26 10 G) (htl : Rd (fun b => b < be) wr ta len t) (hg : w.grownBy wr none) :
    Blk w4 be 26 10 G ∧ Rd (fun b => b < be) w4 ta len t ∧ w.grownBy w4 none := by
  have hA := grown_alloc wr o none
  refine ⟨(hE.kept hA (by intro e; cases e)).kept hg4 (by intro e; have := Option.some.inj e; omega), (htl.keptNew hA).kept hg4 (by intro r hr hS; have := Option.some.inj hr; omega), grown_far (grown_trans hg hA) hg4 (by omega)⟩

theorem own_rd {w : World} {base g n cap : Nat} {H : Nat → Nat} (hown : w.ownsRow base 5 1 (.slice (some ⟨g, 0, none⟩) n cap) n (bytesL H n)) : Rd (fun _ => True) w (some ⟨g, 0, none⟩) n H :=
  .inr ⟨g, 0, rfl, trivial, fun j hj => by rw [Nat.zero_add, hown.cellAt j (by omega), bytesL_get H n j hj]⟩

set_option maxHeartbeats 4000000 in
theorem readLaw_main (n : Nat) (a : Option Addr) (len cap : Nat) (t : Nat → Nat) (w : World) {S : Nat → Prop} (h : Rd S w a len t) (h0 : a = none → len = 0) (hlen : len ≤ 1048576) (ht : Hid (∀ j, j < len → t j < 256)) (hn : Hid (n < 36028797018963968)) (hd : decide ((36028797018963968 : Int) ≤ (n : Int)) = false) :
    Calls Try.prog 3 #[.int .u64 (n : Int), .slice a len cap] w (LawTrue w) := by
  have hnw : Hid (n < 18446744073709551616) := Nat.lt_trans hn.out (by decide)
  obtain ⟨i0, hi, hz0, hz1, hz2⟩ := info_parts Try.info5
  go_enter Try.func3, Try.ntmps3
  go_wp2_with (first | (go_at_call 7; go_in))
  refine (cloneBytes a len cap t w h hlen h0).mono ?_
  rintro e w1 ⟨ta, tc, rfl, ht1, hg1⟩
  go_wp2_with fail
  refine (enc_any n hnw w1).mono ?_
  rintro e w2 ⟨k, rfl, hT, hk, hg2⟩
  have HT : Hid (Takes n k) := hT
  have hk1 : 1 ≤ k := hT.pos
  clear hT
  obtain ⟨G, hG⟩ : ∃ G : Nat → Nat, G = fun i => if i < k then rev n (k - 1 - i) else 0 := ⟨_, rfl⟩
  rw [← hG]
  have HG : Hid _ := hG
  clear hG
  rw [show rowOf 10 G = #[.int .u8 (G 0 : Nat), .int .u8 (G 1 : Nat), .int .u8 (G 2 : Nat), .int .u8 (G 3 : Nat), .int .u8 (G 4 : Nat), .int .u8 (G 5 : Nat), .int .u8 (G 6 : Nat), .int .u8 (G 7 : Nat), .int .u8 (G 8 : Nat), .int .u8 (G 9 : Nat)] from rfl]
  go_wp2_with (at_make; refine wpList_make_own _ rfl _ _ 23 rfl w.heap.size 5 i0 (.int .u8 0) 1 Try.underlying23 hi hz0 hz1 _ _ _ (k + len) rfl rfl (by omega) (by rw [hz2]; omega) (by unfold maxLen; omega) (by have h1 := hg1.size; have h2 := hg2.size; simp; omega) ?_; intro w3 hown hgrow)
  rw [World.size_alloc] at hown
  have hEb : Blk (w2.alloc (.cells (rowOf 10 G) 26)) w2.heap.size 26 10 G := blk_alloc w2 26 10 G
  have hE3 : Blk w3 w2.heap.size 26 10 G := hEb.kept hgrow (by intro e; cases e)
  have ht2 : Rd (fun b => b < w2.heap.size) w2 ta len t := (ht1.keptNew hg2).mono (fun b hb _ => hb)
  have ht3 : Rd (fun b => b < w2.heap.size) w3 ta len t := (ht2.keptNew (grown_alloc w2 (.cells (rowOf 10 G) 26) none)).keptNew hgrow
  have hg3 : w.grownBy w3 none := grown_trans hg1 (grown_trans hg2 (grown_trans (grown_alloc w2 (.cells (rowOf 10 G) 26) none) hgrow))
  have hsz : w.heap.size ≤ w2.heap.size := Nat.le_trans hg1.size hg2.size
  obtain ⟨be, hbe⟩ : ∃ be, be = w2.heap.size := ⟨_, rfl⟩
  rw [← hbe] at hown hE3 ht3 hsz ⊢
  obtain ⟨g, hge⟩ : ∃ g, g = be + 1 := ⟨_, rfl⟩
  rw [← hge] at hown ⊢
  have HGE : Hid (g = be + 1) := hge
  have hown3 : w3.ownsRow w.heap.size 5 1 (.slice (some ⟨g, 0, none⟩) 0 (k + len)) 0 (bytesL (both k G t) 0) := hown
  clear hge hown hEb ht2 hgrow ht1 hg1 hg2 h h0 hbe
  go_loopw [7, 8] (fun bs is wr => ∃ i : Nat, is = .int .i64 (i : Int) ∧ bs = .slice (some ⟨g, 0, none⟩) i (k + len) ∧ i ≤ k ∧ wr.ownsRow w.heap.size 5 1 (.slice (some ⟨g, 0, none⟩) i (k + len)) i (bytesL (both k G t) i) ∧ Blk wr be 26 10 G ∧ Rd (fun b => b < be) wr ta len t ∧ w.grownBy wr none) (fun _ is _ => k - (intOf is).toNat)
  case atStart => exact ⟨0, rfl, rfl, Nat.zero_le _, hown3, hE3, ht3, hg3⟩
  case round =>
    clear hown3 hE3 ht3 hg3
    obtain ⟨i, rfl, rfl, hik, hown, hE, htl, hg⟩ := hrel
    by_cases hlt : i < k
    · have c1 := hE.cell (j := i) (by omega)
      go_wp2_with (at_builtin; refine wpList_append_fits _ rfl _ _ 23 rfl w.heap.size 5 i0 1 Try.underlying23 hi hz1 g i (k + len) _ rfl (hown.alloc _) ⟨wr.heap.size, 0, none⟩ 1 1 [.int .u8 ((G i : Nat) : Int)] rfl rfl (cell_one_new _ _ _) (by intro u hu; simp at hu; subst hu; rfl) (by omega) ?_; intro w4 hown4 hgrow4)
      have hown5 : w4.ownsRow w.heap.size 5 1 (.slice (some ⟨g, 0, none⟩) (i + 1) (k + len)) (i + 1) (bytesL (both k G t) (i + 1)) := by
        rw [bytesL_succ, both, if_pos hlt]
        exact hown4
      have HK : Hid _ := app_kept hgrow4 HGE.out hsz hE htl hg
      clear hown4 hgrow4 hown hE htl hg
      go_wp2_with fail
      go_roundw
      case rel => exact ⟨i + 1, by go_num, rfl, by omega, hown5, HK.out.1, HK.out.2.1, HK.out.2.2⟩
      case measure => simp [intOf]; omega
    · have hik2 : i = k := by omega
      subst hik2
      go_wp2_with fail
      go_loopw [7, 9] (fun bs js wr => ∃ j : Nat, js = .int .i64 (j : Int) ∧ bs = .slice (some ⟨g, 0, none⟩) (i + j) (i + len) ∧ j ≤ len ∧ wr.ownsRow w.heap.size 5 1 (.slice (some ⟨g, 0, none⟩) (i + j) (i + len)) (i + j) (bytesL (both i G t) (i + j)) ∧ Blk wr be 26 10 G ∧ Rd (fun b => b < be) wr ta len t ∧ w.grownBy wr none) (fun _ js _ => len - (intOf js).toNat)
      case atStart => exact ⟨0, rfl, rfl, Nat.zero_le _, hown, hE, htl, hg⟩
      case round =>
        clear hown hE htl hg
        obtain ⟨j, rfl, rfl, hjl, hown, hE, htl, hg⟩ := hrel
        by_cases hlt : j < len
        · have htl2 := htl
          rcases htl2 with h2 | ⟨b, o, rfl, hS, hc⟩
          · omega
          have c1 := hc j hlt
          go_wp2_with (at_builtin; refine wpList_append_fits _ rfl _ _ 23 rfl w.heap.size 5 i0 1 Try.underlying23 hi hz1 g (i + j) (i + len) _ rfl (hown.alloc _) ⟨wr.heap.size, 0, none⟩ 1 1 [.int .u8 ((t j : Nat) : Int)] rfl rfl (cell_one_new _ _ _) (by intro u hu; simp at hu; subst hu; rfl) (by omega) ?_; intro w4 hown4 hgrow4)
          have hown5 : w4.ownsRow w.heap.size 5 1 (.slice (some ⟨g, 0, none⟩) (i + (j + 1)) (i + len)) (i + (j + 1)) (bytesL (both i G t) (i + (j + 1))) := by
            rw [← Nat.add_assoc, bytesL_succ, both, if_neg (by omega), Nat.add_sub_cancel_left]
            exact hown4
          have HK : Hid _ := app_kept hgrow4 HGE.out hsz hE htl hg
          clear hown4 hgrow4 hown hE htl hg hc
          go_wp2_with fail
          go_roundw
          case rel => exact ⟨j + 1, by go_num, rfl, by omega, hown5, HK.out.1, HK.out.2.1, HK.out.2.2⟩
          case measure => simp [intOf]; omega
        · have hjl2 : j = len := by omega
          subst hjl2
          have hRd := own_rd hown
          have HBy : Hid (∀ t', t' < i + j → both i G t t' < 256) := by
            intro t' ht'
            unfold both
            split
            · rw [HG.out]
              show (if t' < i then rev n (i - 1 - t') else 0) < 256
              split
              · exact rev_lt _ _
              · omega
            · exact ht.out _ (by omega)
          go_wp2_with fail
          refine (zzvarint_any (some ⟨g, 0, none⟩) (i + j) (i + j) (both i G t) wr hRd (by omega) HBy).mono ?_
          rintro e w' ⟨v, sz, rfl, hs, hw'⟩
          obtain rfl := hw'.symm
          have hfin := read_enc HT.out (H := both i G t) (fun q hq => by unfold both; rw [if_pos hq, HG.out]; exact if_pos hq) (by omega) hn.out hs
          obtain ⟨rfl, rfl⟩ := hfin
          clear hs
          go_wp2_with fail
          go_ret
          exact ⟨rfl, hg⟩

end Go.Proofs.Qxb6003763a
