/-
  THE LAW FnIsHeadingOneToSixHashes (6): its walk.
-/
import Derived.Test.Qxb6003764aHead
import Derived.Test.Qxb6003764aClone
namespace Go.Proofs.Qxb6003764a
open Go.RowKit Go.Deep

def LawTrue (w : World) (e : Ending) (w' : World) : Prop := e = .returned (.bool true) ∧ w.grownBy w' none

theorem Rd.nil {S : Nat → Prop} {w : World} {a : Option Addr} {n : Nat} {f : Nat → Nat} (h : Rd S w a n f) : a = none → n = 0 := by
  rintro rfl
  rcases h with h | ⟨b, o, ha, _⟩
  · exact h
  · cases ha

theorem goodBelow_succ {f : Nat → Nat} {n k : Nat} (hk : 1 ≤ k) : GoodBelow f n (k + 1) ↔ GoodBelow f n k ∨ Good f n k := by
  constructor
  · rintro ⟨m, h1, h2, h3⟩
    by_cases c : m = k
    · subst c; exact .inr h3
    · exact .inl ⟨m, h1, by omega, h3⟩
  · rintro (⟨m, h1, h2, h3⟩ | h)
    · exact ⟨m, h1, by omega, h3⟩
    · exact ⟨k, hk, by omega, h⟩

theorem goodBelow_one (f : Nat → Nat) (n : Nat) : ¬ GoodBelow f n 1 := by
  rintro ⟨m, h1, h2, _⟩
  omega

theorem goodBelow_end {f : Nat → Nat} {n k : Nat} (h : k = 7 ∨ (n < k ∧ k ≤ 7)) : GoodBelow f n k ↔ GoodBelow f n 7 := by
  constructor
  · rintro ⟨m, h1, h2, h3⟩
    exact ⟨m, h1, by omega, h3⟩
  · rintro ⟨m, h1, h2, h3⟩
    have := h3.1
    exact ⟨m, h1, by omega, h3⟩

/-- What the outer loop knows; what the inner one knows. -/
def Want (f : Nat → Nat) (n k : Nat) (b : Bool) : Prop := b = true ↔ GoodBelow f n k
def AllB (f : Nat → Nat) (i : Nat) (c : Bool) : Prop := c = true ↔ ∀ j, j < i → f j = 35

theorem allB_yes {f : Nat → Nat} {i : Nat} {c : Bool} (h : AllB f i c) (e : f i = 35) : AllB f (i + 1) c := by
  unfold AllB at *
  rw [h]
  constructor
  · intro h j hj
    by_cases c : j = i
    · rw [c]; exact e
    · exact h j (by omega)
  · intro h j hj
    exact h j (by omega)

theorem allB_no {f : Nat → Nat} {i : Nat} (e : f i ≠ 35) : AllB f (i + 1) false :=
  ⟨fun h => (by cases h), fun h => absurd (h i (by omega)) e⟩

theorem want_keep {f : Nat → Nat} {n k : Nat} {b : Bool} (h : Want f n k b) (hk : 1 ≤ k) (hg : ¬ Good f n k) : Want f n (k + 1) b := by
  unfold Want at *
  rw [h, goodBelow_succ hk]
  exact ⟨.inl, fun h => h.resolve_right hg⟩

theorem want_hit {f : Nat → Nat} {n k : Nat} (hk : 1 ≤ k) (hg : Good f n k) : Want f n (k + 1) true :=
  ⟨fun _ => (goodBelow_succ hk).mpr (.inr hg), fun _ => rfl⟩

set_option maxHeartbeats 4000000 in
theorem headLaw_main (a : Option Addr) (len cap : Nat) (f : Nat → Nat) (w : World) {S : Nat → Prop} (h : Rd S w a len f) (h0 : a = none → len = 0) (hlen : len ≤ 1048576) :
    Calls Try.prog 6 #[.slice a len cap] w (LawTrue w) := by
  go_enter Try.func6, Try.ntmps6
  go_wp2_with (first | (go_at_call 17; go_in))
  refine (zzCloneBytes a len cap f w h hlen h0).mono ?_
  rintro e w1 ⟨ba, bc, rfl, hb1, hg1⟩
  go_wp2_with fail
  refine (zzCloneBytes ba len bc f w1 hb1 hlen hb1.nil).mono ?_
  rintro e w2 ⟨ca, cc, rfl, hb2, hg2⟩
  have hb3 := hb1.keptNew hg2
  have hg := grown_trans hg1 hg2
  clear hb1 hg1 hg2
  go_wp2_with fail
  refine (zzIsHeading_any ca len cc f w2 hb2 hlen).mono ?_
  rintro e w' ⟨g, rfl, hs, hw'⟩
  obtain rfl := hw'.symm
  have HG : Hid (Want f len 7 g) := hs
  clear hs hb2
  go_wp2_with fail
  go_loop [4, 5] (fun bs ks => ∃ (k : Nat) (b : Bool), ks = .int .i64 (k : Int) ∧ bs = .bool b ∧ 1 ≤ k ∧ k ≤ 7 ∧ Hid (Want f len k b)) (fun _ ks => 7 - (intOf ks).toNat)
  case atStart => exact ⟨1, false, rfl, rfl, Nat.le_refl _, by omega, ⟨fun e => (by cases e), fun e => absurd e (goodBelow_one _ _)⟩⟩
  case round =>
    obtain ⟨k, b, rfl, rfl, hk1, hk7, hW⟩ := hrel
    by_cases hfin : k = 7 ∨ len < k
    · have hgb : g = b := by
        have h1 : (g = true ↔ _) := HG.out
        have h2 : (b = true ↔ _) := hW.out
        rw [goodBelow_end (by omega), ← h1] at h2
        cases g <;> cases b <;> simp_all
      subst hgb
      clear HG hW
      rcases hfin with rfl | hfin
      · go_wp2_with fail
        go_ret
        exact ⟨by simp, hg⟩
      · by_cases h7 : k = 7
        · subst h7
          go_wp2_with fail
          go_ret
          exact ⟨by simp, hg⟩
        · go_wp2_with fail
          go_ret
          exact ⟨by simp, hg⟩
    · have hk6 : k ≤ 6 := by omega
      have hkl : k ≤ len := by omega
      clear hfin
      go_wp2_with fail
      go_loop [6, 7] (fun cs is => ∃ (i : Nat) (c : Bool), is = .int .i64 (i : Int) ∧ cs = .bool c ∧ i ≤ k ∧ Hid (AllB f i c)) (fun _ is => k - (intOf is).toNat)
      case atStart => exact ⟨0, true, rfl, rfl, Nat.zero_le _, ⟨fun _ j hj => absurd hj (by omega), fun _ => rfl⟩⟩
      case round =>
        obtain ⟨i, c, rfl, rfl, hik, hA⟩ := hrel
        have hb4 := hb3
        rcases hb4 with hb4 | ⟨bb, o, rfl, hS, hc⟩
        · omega
        by_cases hlt : i < k
        · have c1 := hc i (by omega)
          have hil : i < len := by omega
          clear hc hb3
          by_cases h35 : f i = 35
          · have HA : Hid _ := allB_yes hA.out h35
            rw [h35] at c1
            clear h35
            go_wp2_with fail
            go_round
            case rel => exact ⟨i + 1, c, by go_num, rfl, by omega, HA⟩
            case measure => simp [intOf]; omega
          · have HA : Hid _ := allB_no h35
            have e35 : (((f i : Nat) : Int) == 35) = false := beq_false_of_ne (by omega)
            clear h35
            go_wp2_with fail
            go_round
            case rel => exact ⟨i + 1, false, by go_num, rfl, by omega, HA⟩
            case measure => simp [intOf]; omega
        · have hik2 : i = k := by omega
          subst hik2
          cases c with
          | false =>
            have HN : Hid (Want f len (i + 1) b) := want_keep hW.out hk1 (fun hgd => absurd (hA.out.mpr hgd.2.1) (by simp))
            clear hA hW hc
            go_wp2_with fail
            go_round
            case rel => exact ⟨i + 1, b, by go_num, rfl, by omega, by omega, HN⟩
            case measure => simp [intOf]; omega
          | true =>
            have HA : Hid (∀ j, j < i → f j = 35) := hA.out.mp rfl
            clear hA
            by_cases hil : i = len
            · subst hil
              have HN : Hid (Want f i (i + 1) true) := want_hit hk1 ⟨Nat.le_refl _, HA.out, .inl rfl⟩
              clear hc hW
              go_wp2_with fail
              go_round
              case rel => exact ⟨i + 1, true, by go_num, rfl, by omega, by omega, HN⟩
              case measure => simp [intOf]; omega
            · have c1 := hc i (by omega)
              have hil2 : i < len := by omega
              have en : ((len : Int) == (i : Int)) = false := beq_false_of_ne (by omega)
              clear hc hb3
              by_cases g3 : f i = 32
              · have HN : Hid (Want f len (i + 1) true) := want_hit hk1 ⟨by omega, HA.out, .inr (.inl g3)⟩
                rw [g3] at c1
                clear g3 hW
                go_wp2_with fail
                go_round
                case rel => exact ⟨i + 1, true, by go_num, rfl, by omega, by omega, HN⟩
                case measure => simp [intOf]; omega
              by_cases g4 : f i = 9
              · have HN : Hid (Want f len (i + 1) true) := want_hit hk1 ⟨by omega, HA.out, .inr (.inr g4)⟩
                rw [g4] at c1
                clear g4 g3 hW
                go_wp2_with fail
                go_round
                case rel => exact ⟨i + 1, true, by go_num, rfl, by omega, by omega, HN⟩
                case measure => simp [intOf]; omega
              · have HN : Hid (Want f len (i + 1) b) := want_keep hW.out hk1 (fun hgd => by have := hgd.2.2; omega)
                have e32 : (((f i : Nat) : Int) == 32) = false := beq_false_of_ne (by omega)
                have e9 : (((f i : Nat) : Int) == 9) = false := beq_false_of_ne (by omega)
                clear g3 g4 hW
                go_wp2_with fail
                go_round
                case rel => exact ⟨i + 1, b, by go_num, rfl, by omega, by omega, HN⟩
                case measure => simp [intOf]; omega

end Go.Proofs.Qxb6003764a
