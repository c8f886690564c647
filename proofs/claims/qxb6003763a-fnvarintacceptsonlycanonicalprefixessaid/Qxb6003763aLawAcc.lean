/-
  THE LAW FnVarintAcceptsOnlyCanonicalPrefixes (4): its walk.
-/
import Derived.Test.Qxb6003763aLawRead
import Derived.RegionTactic
import Derived.ChangeAlike
namespace Go.Proofs.Qxb6003763a
open Go.RowKit Go.Deep

theorem Takes.unique {n k k' : Nat} (h : Takes n k) (h' : Takes n k') : k = k' := by
  by_cases hc : k < k'
  · exact absurd h.zero (h'.more k h.pos hc)
  · by_cases hd : k' < k
    · exact absurd h'.zero (h.more k' h'.pos hd)
    · omega

/-- What varint refuses has no end among its first eight bytes. -/
theorem refuse_late {f : Nat → Nat} {n : Nat} (h : (∃ i, i < n ∧ (∀ j, j ≤ i → 128 ≤ f j) ∧ 36028797018963968 ≤ 128 * uAt f i + f i % 128) ∨ ∀ j, j < n → 128 ≤ f j) : ∀ j, j < n → f j < 128 → 7 < j := by
  intro j hj hl
  rcases h with ⟨i, hi, h1, h2⟩ | h1
  · have hji : i < j := by
      by_cases hc : i < j
      · exact hc
      · have := h1 j (by omega); omega
    have h3 : 7 ≤ i := by
      by_cases hc : 7 ≤ i
      · exact hc
      · have h4 := uAt_le f i
        have h5 := gAt_le (show i ≤ 6 by omega)
        have h6 := gAt_seven
        have h7 := Nat.mod_lt (f i) (show 0 < 128 by omega)
        omega
    omega
  · have := h1 j hj; omega

set_option maxHeartbeats 4000000 in
set_option maxRecDepth 20000 in
theorem accLaw_main (a : Option Addr) (len cap : Nat) (f : Nat → Nat) (w : World) {S : Nat → Prop} (h : Rd S w a len f) (h0 : a = none → len = 0) (hlen : len ≤ 1048576) (hf : Hid (∀ j, j < len → f j < 256)) :
    Calls Try.prog 4 #[.slice a len cap] w (LawTrue w) := by
  go_enter Try.func4, Try.ntmps4
  go_wp2_with (first | (go_at_call 11; go_in))
  refine (cloneBytes a len cap f w h hlen h0).mono ?_
  rintro e w1 ⟨ba, bc, rfl, hb1, hg1⟩
  go_wp2_with fail
  refine (zzvarint_any ba len bc f w1 hb1 (by omega) hf).mono ?_
  rintro e w' ⟨v, sz, rfl, hs, hw'⟩
  obtain rfl := hw'.symm
  rcases hs with ⟨i1, hi1, h1, h2, h3, h4, h5⟩ | ⟨rfl, rfl, hr⟩
  · have hbs : ∀ j, j ≤ i1 → f j < 256 := fun j hj => hf.out j (by omega)
    have HW : Hid _ := write_back hbs h1 h2
    rw [← h3] at HW
    have HHi : Hid (∀ j, j < i1 → 128 ≤ f j) := h1
    have HLo : Hid (f i1 < 128) := h2
    have hvw : Hid (v < 18446744073709551616) := by show v < _; omega
    subst h4
    clear h1 h2 h3 h5 hbs
    go_wp2_with fail
    go_loop [5, 6] (fun es is => ∃ i : Nat, es = .int .i64 (-1) ∧ is = .int .i64 (i : Int) ∧ i ≤ i1) (fun _ is => i1 + 1 - (intOf is).toNat)
    case atStart => exact ⟨0, rfl, rfl, Nat.zero_le _⟩
    case round =>
      obtain ⟨i, rfl, rfl, hi⟩ := hrel
      have hb2 := hb1
      rcases hb2 with hb2 | ⟨b, o, rfl, hS, hc⟩
      · omega
      have c1 := hc i (by omega)
      by_cases hlt : i < i1
      · have hge : decide (((f i : Nat) : Int) < 128) = false := decide_eq_false (by have := HHi.out i hlt; omega)
        have hil : i < len := by omega
        clear hc
        go_wp2_with fail
        go_round
        case rel => exact ⟨i + 1, rfl, by go_num, by omega⟩
        case measure => simp [intOf]; omega
      · have hii : i = i1 := by omega
        subst hii
        have hlo : decide (((f i : Nat) : Int) < 128) = true := decide_eq_true (by have := HLo.out; omega)
        clear hc
        go_wp2_with fail
        clear c1
        refine (enc_any v hvw w1).mono ?_
        rintro e w2 ⟨k, rfl, hT, hk, hg2⟩
        have hki : k = i + 1 := hT.unique HW.out.1
        subst hki
        obtain ⟨G, hG⟩ : ∃ G : Nat → Nat, G = fun j => if j < i + 1 then rev v (i + 1 - 1 - j) else 0 := ⟨_, rfl⟩
        rw [← hG]
        have HGf : Hid (∀ j, j < i + 1 → G j = f j) := by
          intro j hj
          rw [hG]
          show (if j < i + 1 then rev v (i + 1 - 1 - j) else 0) = f j
          rw [if_pos hj, Nat.add_sub_cancel, HW.out.2 j hj]
        clear hG hT
        rw [show rowOf 10 G = #[.int .u8 (G 0 : Nat), .int .u8 (G 1 : Nat), .int .u8 (G 2 : Nat), .int .u8 (G 3 : Nat), .int .u8 (G 4 : Nat), .int .u8 (G 5 : Nat), .int .u8 (G 6 : Nat), .int .u8 (G 7 : Nat), .int .u8 (G 8 : Nat), .int .u8 (G 9 : Nat)] from rfl]
        have hEb : Blk (w2.alloc (.cells (rowOf 10 G) 26)) w2.heap.size 26 10 G := blk_alloc w2 26 10 G
        have hb3 : Rd (fun b => w.heap.size ≤ b) (w2.alloc (.cells (rowOf 10 G) 26)) (some ⟨b, o, none⟩) len f := (hb1.keptNew hg2).keptNew (grown_alloc w2 (.cells (rowOf 10 G) 26) none)
        have hg3 : w.grownBy (w2.alloc (.cells (rowOf 10 G) 26)) none := grown_trans hg1 (grown_trans hg2 (grown_alloc w2 (.cells (rowOf 10 G) 26) none))
        clear HW HHi HLo hvw hlo hb1
        go_wp2_with fail
        go_loopw [9] (fun js wr => ∃ j : Nat, js = .int .i64 (j : Int) ∧ j ≤ i + 1 ∧ Blk wr w2.heap.size 26 10 G ∧ Rd (fun b => w.heap.size ≤ b) wr (some ⟨b, o, none⟩) len f ∧ w.grownBy wr none) (fun js _ => i + 1 - (intOf js).toNat)
        case atStart => exact ⟨0, rfl, Nat.zero_le _, hEb, hb3, hg3⟩
        case round =>
          clear hEb hb3 hg3
          obtain ⟨j, rfl, hj, hE, hb, hg⟩ := hrel
          by_cases hji : j < i + 1
          · have c1 := hE.cell (j := j) (by omega)
            rw [HGf.out j hji] at c1
            have c2 : wr.cell? ⟨b, o + j, none⟩ = some (.int .u8 ((f j : Nat) : Int)) := by
              rcases hb with hb | ⟨b', o', hbo, _, hc⟩
              · omega
              · injection hbo with hbo
                injection hbo with h1 h2
                subst h1 h2
                exact hc j (by omega)
            go_wp2_with fail
            go_region
            all_goals go_wp2_with fail
            all_goals go_roundw
            case rel => exact ⟨j + 1, by go_num, by omega, hE, hb, grown_drew hg⟩
            case measure => simp [intOf]; omega
          · go_wp2_with fail
            go_ret
            exact ⟨rfl, hg⟩
  · have HL : Hid (∀ j, j < len → f j < 128 → 7 < j) := refuse_late hr
    clear hr
    go_wp2_with fail
    go_loop [5, 6] (fun es is => ∃ i : Nat, es = .int .i64 (-1) ∧ is = .int .i64 (i : Int) ∧ i ≤ len) (fun _ is => len - (intOf is).toNat)
    case atStart => exact ⟨0, rfl, rfl, Nat.zero_le _⟩
    case round =>
      obtain ⟨i, rfl, rfl, hi⟩ := hrel
      by_cases hlt : i < len
      · have hb2 := hb1
        rcases hb2 with hb2 | ⟨b, o, rfl, hS, hc⟩
        · omega
        have c1 := hc i (by omega)
        clear hc
        by_cases hlo : f i < 128
        · have h7 : decide ((7 : Int) < (i : Int)) = true := decide_eq_true (by have := HL.out i hlt hlo; omega)
          have hn : decide ((i : Int) < 0) = false := decide_eq_false (by omega)
          have hlo2 : decide (((f i : Nat) : Int) < 128) = true := decide_eq_true (by omega)
          clear hlo
          go_wp2_with fail
          go_ret
          exact ⟨rfl, hg1⟩
        · have hlo2 : decide (((f i : Nat) : Int) < 128) = false := decide_eq_false (by omega)
          clear hlo
          go_wp2_with fail
          go_round
          case rel => exact ⟨i + 1, rfl, by go_num, by omega⟩
          case measure => simp [intOf]; omega
      · go_wp2_with fail
        go_ret
        exact ⟨rfl, hg1⟩

end Go.Proofs.Qxb6003763a
