/-
  THE LAW FnAppendPathCollapsesRuns (3): its walk.
-/
import Derived.Test.Qxb6003764aStrApp
import Derived.RegionTactic
import Derived.BigQuiet
namespace Go.Proofs.Qxb6003764a.Str
open Go.RowKit Go.Deep

/-! ### The plain part -/
/-- The number of runs among the first i strings. -/
def cnt (s : Nat → ByteArray) : Nat → Nat
  | 0 => 0
  | i + 1 => if 1 ≤ i ∧ (s i).toList = (s (i - 1)).toList then cnt s i else cnt s i + 1

theorem cnt_same {s : Nat → ByteArray} {i : Nat} (h : 1 ≤ i) (e : (s i).toList = (s (i - 1)).toList) : cnt s (i + 1) = cnt s i := by rw [cnt, if_pos ⟨h, e⟩]
theorem cnt_new {s : Nat → ByteArray} {i : Nat} (e : 1 ≤ i → (s i).toList ≠ (s (i - 1)).toList) : cnt s (i + 1) = cnt s i + 1 := by rw [cnt, if_neg (fun h => e h.1 h.2)]

theorem cnt_step (s : Nat → ByteArray) (i : Nat) : cnt s i ≤ cnt s (i + 1) ∧ cnt s (i + 1) ≤ cnt s i + 1 := by
  rw [cnt]
  split <;> omega

theorem cnt_mono (s : Nat → ByteArray) (i : Nat) : ∀ d, cnt s i ≤ cnt s (i + d)
  | 0 => Nat.le_refl _
  | d + 1 => Nat.le_trans (cnt_mono s i d) (cnt_step s (i + d)).1

theorem cnt_le (s : Nat → ByteArray) : ∀ i, cnt s i ≤ i
  | 0 => Nat.le_refl _
  | i + 1 => by have := cnt_le s i; have := (cnt_step s i).2; omega

theorem cnt_one (s : Nat → ByteArray) : cnt s 1 = 1 := by
  rw [cnt_new (fun h => absurd h (by omega))]
  rfl

theorem cnt_pos (s : Nat → ByteArray) (i : Nat) (h : 1 ≤ i) : 1 ≤ cnt s i := by
  have := cnt_mono s 1 (i - 1)
  rw [cnt_one, show 1 + (i - 1) = i by omega] at this
  exact this

theorem cnt_mono' (s : Nat → ByteArray) {i j : Nat} (h : i ≤ j) : cnt s i ≤ cnt s j := by
  have := cnt_mono s i (j - i)
  rw [show i + (j - i) = j by omega] at this
  exact this

structure Inv (s : Nat → ByteArray) (i n : Nat) (o : Nat → ByteArray) : Prop where
  num : n = cnt s i
  at' : ∀ j, j < i → (o (cnt s (j + 1) - 1)).toList = (s j).toList
  apart : ∀ q, 1 ≤ q → q < n → (o q).toList ≠ (o (q - 1)).toList

theorem Inv.start (s o : Nat → ByteArray) : Inv s 0 0 o := ⟨rfl, fun j hj => absurd hj (by omega), fun q _ hq => absurd hq (by omega)⟩

theorem Inv.step {s o o' : Nat → ByteArray} {i n n' : Nat} (h : Inv s i n o) (hs : Step n o (s i) n' o') : Inv s (i + 1) n' o' := by
  obtain ⟨rfl, hat, hap⟩ := h
  have hlast : 1 ≤ i → (o (cnt s i - 1)).toList = (s (i - 1)).toList := by
    intro hi
    have := hat (i - 1) (by omega)
    rw [show i - 1 + 1 = i by omega] at this
    exact this
  have hzero : ¬ 1 ≤ i → cnt s i = 0 := by
    intro hi
    rw [show i = 0 by omega]
    rfl
  rcases hs with ⟨h1, h2, rfl, rfl⟩ | ⟨h1, rfl, rfl⟩
  · have hi : 1 ≤ i := by
      by_cases c : 1 ≤ i
      · exact c
      · have := hzero c; omega
    have hc := cnt_same hi (h2.symm.trans (hlast hi))
    refine ⟨hc.symm, fun j hj => ?_, hap⟩
    by_cases e : j = i
    · rw [e, hc]; exact h2
    · exact hat j (by omega)
  · have hc : cnt s (i + 1) = cnt s i + 1 := cnt_new (fun hi e => h1 (cnt_pos s i hi) ((hlast hi).trans e.symm))
    refine ⟨hc.symm, fun j hj => ?_, fun q h2 h3 => ?_⟩
    · by_cases e : j = i
      · subst e
        rw [hc, Nat.add_sub_cancel]
        show (if cnt s j = cnt s j then s j else o (cnt s j)).toList = _
        rw [if_pos rfl]
      · have h4 := cnt_mono' s (show j + 1 ≤ i by omega)
        have h5 := cnt_pos s (j + 1) (by omega)
        show (if cnt s (j + 1) - 1 = cnt s i then s i else o (cnt s (j + 1) - 1)).toList = _
        rw [if_neg (by omega)]
        exact hat j (by omega)
    · show (if q = cnt s i then s i else o q).toList ≠ (if q - 1 = cnt s i then s i else o (q - 1)).toList
      rw [if_neg (show ¬ q - 1 = cnt s i by omega)]
      by_cases e : q = cnt s i
      · rw [if_pos e, e]
        exact fun x => h1 (by omega) x.symm
      · rw [if_neg e]
        exact hap q h2 (by omega)

/-! ### The walk -/
def LawTrue (w : World) (e : Ending) (w' : World) : Prop := e = .returned (.bool true) ∧ w.grownBy w' none

/-- n strings f lie from ⟨b, o⟩ on. -/
def Cells (w : World) (b o n : Nat) (f : Nat → ByteArray) : Prop := ∀ j, j < n → w.cell? ⟨b, o + j, none⟩ = some (.string (f j))

theorem Cells.drew {w : World} {b o n : Nat} {f : Nat → ByteArray} (h : Cells w b o n f) : Cells w.drew b o n f := h

theorem Cells.drewN {w : World} {b o n : Nat} {f : Nat → ByteArray} (h : Cells w b o n f) (k : Nat) : Cells (w.drewN k) b o n f := h
theorem grown_drewN {a b : World} {row : Option Nat} (h : a.grownBy b row) (k : Nat) : a.grownBy (b.drewN k) row := ⟨h.os, h.tape, h.output, h.size, h.block⟩

theorem grown_far {a b c : World} {r : Option Nat} (h : a.grownBy b none) (k : b.grownBy c r) (hs : ∀ x, r = some x → a.heap.size ≤ x) : a.grownBy c none :=
  ⟨k.os.trans h.os, k.tape.trans h.tape, k.output.trans h.output, Nat.le_trans h.size k.size, fun i hi hn => (k.block i (Nat.lt_of_lt_of_le hi h.size) (fun e => by have := hs i (by first | exact e | exact e.symm); omega)).trans (h.block i hi hn)⟩

theorem own_cells {w : World} {base g n cap : Nat} {o : Nat → ByteArray} (hown : w.ownsRow base 9 1 (.slice (some ⟨g, 0, none⟩) n cap) n (strsL o n)) : Cells w g 0 n o :=
  fun j hj => by rw [Nat.zero_add, hown.cellAt j (by omega), strsL_get o n j hj]

set_option maxHeartbeats 4000000 in
theorem appLaw_main (a : Option Addr) (n cap : Nat) (s : Nat → ByteArray) (w : World) {S : Nat → Prop} (h : Rd S w a n s) (h0 : a = none → n = 0) :
    Calls Try.prog 3 #[.slice a n cap] w (LawTrue w) := by
  go_enter Try.func3, Try.ntmps3
  go_wp2_with fail
  refine (zzBytes_any a n cap s w h).mono ?_
  rintro e w' ⟨gg, rfl, hgt, hw'⟩
  obtain rfl := hw'.symm
  cases gg with
  | false =>
    clear hgt
    go_wp2_with fail
    go_ret
    exact ⟨rfl, grown_refl _ _⟩
  | true =>
  obtain ⟨hn, hsz⟩ := hgt rfl
  have HSZ : Hid _ := hsz
  clear hgt hsz
  go_wp2_with fail
  refine (stringsBytes_any a n cap s w h hn HSZ).mono ?_
  rintro e w' ⟨t, rfl, hw'⟩
  obtain rfl := hw'.symm
  by_cases ht : 1048576 < t
  · go_wp2_with fail
    go_ret
    exact ⟨rfl, grown_refl _ _⟩
  go_wp2_with fail
  refine (cloneStrings_any a n cap s w h hn h0).mono ?_
  rintro e w1 ⟨a1, c1, rfl, hb1, hg1⟩
  have hb2 : Rd (fun b => b < w1.heap.size) w1 a1 n s := hb1.mono (fun b hb _ => hb)
  clear hb1 ht h HSZ
  go_wp2_with fail
  go_loopw [3, 4] (fun os is wr => ∃ (i m : Nat) (o : Nat → ByteArray), is = .int .i64 (i : Int) ∧ i ≤ n ∧ wr.ownsRow w1.heap.size 9 1 os m (strsL o m) ∧ Hid (Inv s i m o) ∧ Rd (fun b => b < w1.heap.size) wr a1 n s ∧ w1.grownBy wr none) (fun _ is _ => n - (intOf is).toNat)
  case atStart => exact ⟨0, 0, s, rfl, Nat.zero_le _, ⟨rfl, .inl ⟨rfl, rfl⟩⟩, Inv.start s s, hb2, grown_refl _ _⟩
  case round =>
    clear hb2
    obtain ⟨i, m, o, rfl, hi, hown, hI, hb, hg⟩ := hrel
    have hmi : m ≤ i := by rw [hI.out.num]; exact cnt_le s i
    by_cases hlt : i < n
    · have hb4 := hb
      rcases hb4 with hb4 | ⟨b, off, rfl, hS, hc⟩
      · omega
      have c1 := hc i hlt
      clear hc
      go_wp2_with fail
      refine (zzAppendPath_any u3 m w1.heap.size o (s i) wr hown hg.size (by omega)).mono ?_
      rintro e w4 ⟨v', n', o', r, rfl, h1, h2, h3, h4⟩
      have HI : Hid _ := hI.out.step h2
      have HB : Hid _ := hb.kept h3 (fun r hr hS => by have := h4 _ hr; omega)
      have HG : Hid _ := grown_far hg h3 h4
      have HO : Hid _ := h1
      clear h1 h2 h3 h4 hown hI hb hg c1
      go_wp2_with fail
      go_roundw
      case rel => exact ⟨i + 1, n', o', by go_num, by omega, HO.out, HI, HB.out, HG.out⟩
      case measure => simp [intOf]; omega
    · have hin : i = n := by omega
      subst hin
      have hG : w.grownBy wr none := grown_trans hg1 hg
      clear hg1 hg
      by_cases hz : i = 0
      · have hm0 : m = 0 := by omega
        subst hz hm0
        clear hI
        rcases hown.2 with ⟨rfl, _⟩ | ⟨g, cap, cur, rfl, _⟩
        · go_wp2_with fail
          go_ret
          exact ⟨rfl, hG⟩
        · go_wp2_with fail
          go_ret
          exact ⟨rfl, hG⟩
      · have hm1 : 1 ≤ m := by rw [hI.out.num]; exact cnt_pos s i (by omega)
        obtain ⟨g, oc, rfl⟩ : ∃ g oc, u3 = .slice (some ⟨g, 0, none⟩) m oc := by
          rcases hown.2 with ⟨_, h0⟩ | ⟨g, cap, cur, rfl, _⟩
          · omega
          · exact ⟨g, cap, rfl⟩
        have hO := own_cells hown
        clear hown
        rcases hb with hb | ⟨b, off, rfl, hS, hc⟩
        · omega
        have hA : Cells wr b off i s := hc
        clear hc hS
        have e0 : ((m : Int) == 0) = false := beq_false_of_ne (by omega)
        have e1 : decide (i < m) = false := decide_eq_false (by omega)
        have e2 : ((i : Int) == 0) = false := beq_false_of_ne (by omega)
        go_wp2_with fail
        clear e0 e1 e2
        go_loopw [5] (fun qs wr => ∃ q : Nat, qs = .int .i64 (q : Int) ∧ 1 ≤ q ∧ q ≤ m ∧ Cells wr g 0 m o ∧ Cells wr b off i s ∧ w.grownBy wr none) (fun qs _ => m - (intOf qs).toNat)
        case atStart => exact ⟨1, rfl, Nat.le_refl _, hm1, hO, hA, hG⟩
        case round =>
          clear hO hA hG
          obtain ⟨q, rfl, hq1, hqm, hO, hA, hG⟩ := hrel
          by_cases hlt : q < m
          · have c1 := hO q hlt
            have c2 := hO (q - 1) (by omega)
            rw [Nat.zero_add] at c1 c2
            have he : ((o q).toList == (o (q - 1)).toList) = false := beq_false_of_ne (hI.out.apart q hq1 hlt)
            go_wp2_with fail
            go_region
            all_goals go_wp2_with fail
            all_goals go_roundw
            case rel => exact ⟨q + 1, by go_num, by omega, by omega, hO.drew, hA.drew, grown_drew hG⟩
            case measure => simp [intOf]; omega
          · have hqm2 : q = m := by omega
            subst hqm2
            have c1 := hO 0 (by omega)
            have c2 := hA 0 (by omega)
            rw [Nat.add_zero] at c1 c2
            have he : ((o 0).toList == (s 0).toList) = true := by
              have := hI.out.at' 0 (by omega)
              rw [cnt_one] at this
              rw [this]
              exact beq_self_eq_true _
            go_wp2_with fail
            go_region
            all_goals go_wp2_with fail
            clear c1 c2
            go_loopw [6, 7] (fun js is wr => ∃ j k : Nat, js = .int .i64 (j : Int) ∧ is = .int .i64 (k : Int) ∧ 1 ≤ k ∧ k ≤ i ∧ Hid (j + 1 = cnt s k) ∧ Cells wr g 0 q o ∧ Cells wr b off i s ∧ w.grownBy wr none) (fun _ is _ => i - (intOf is).toNat)
            case atStart => exact ⟨0, 1, rfl, rfl, Nat.le_refl _, by omega, (cnt_one s).symm, hO.drew, hA.drew, grown_drew hG⟩
            case round =>
              clear hO hA hG
              obtain ⟨j, k, rfl, rfl, hk1, hki, hJ, hO, hA, hG⟩ := hrel
              have hjq : j < q := by have h1 := hJ.out; have h2 := cnt_mono' s hki; have h3 := hI.out.num; omega
              by_cases hlt : k < i
              · have c1 := hA k hlt
                have c2 := hO j hjq
                rw [Nat.zero_add] at c2
                have hoj : (o j).toList = (s (k - 1)).toList := by
                  have := hI.out.at' (k - 1) (by omega)
                  rw [show k - 1 + 1 = k by omega, ← hJ.out, Nat.add_sub_cancel] at this
                  exact this
                by_cases hsame : (s k).toList = (s (k - 1)).toList
                · have he2 : ((s k).toList == (o j).toList) = true := by rw [hoj, hsame]; exact beq_self_eq_true _
                  have HJ : Hid (j + 1 = cnt s (k + 1)) := by show _ = _; rw [cnt_same hk1 hsame]; exact hJ.out
                  clear hsame hoj hJ
                  go_wp2_with fail
                  go_region
                  all_goals go_wp2_with fail
                  all_goals go_roundw
                  case rel => exact ⟨j, k + 1, rfl, by go_num, by omega, by omega, HJ, hO.drew, hA.drew, grown_drew hG⟩
                  case measure => simp [intOf]; omega
                · have he2 : ((s k).toList == (o j).toList) = false := by rw [hoj]; exact beq_false_of_ne hsame
                  have hcn : cnt s (k + 1) = cnt s k + 1 := cnt_new (fun _ => hsame)
                  have HJ : Hid (j + 1 + 1 = cnt s (k + 1)) := by show _ = _; rw [hcn, ← hJ.out]
                  have hjq2 : j + 1 < q := by have h1 := HJ.out; have h2 := cnt_mono' s (show k + 1 ≤ i by omega); have h3 := hI.out.num; omega
                  obtain ⟨j1, hj1⟩ : ∃ j1 : Nat, j1 = j + 1 := ⟨_, rfl⟩
                  have hji : (j : Int) + 1 = (j1 : Int) := by omega
                  rw [← hj1] at HJ hjq2
                  have c3 := hO j1 hjq2
                  rw [Nat.zero_add] at c3
                  have he3 : ((o j1).toList == (s k).toList) = true := by
                    have := hI.out.at' k hlt
                    rw [← HJ.out, Nat.add_sub_cancel] at this
                    rw [this]
                    exact beq_self_eq_true _
                  have HJI : Hid _ := hji
                  have HJ1 : Hid (j1 = j + 1) := hj1
                  clear hsame hoj hJ hcn hji hj1
                  go_wp2_with fail
                  go_region
                  go_wp2_with fail
                  rw [HJI.out]
                  have hd : decide ((q : Int) ≤ (j1 : Int)) = false := decide_eq_false (by omega)
                  clear c2
                  go_quiet (fail)
                  go_wp2_with fail
                  go_roundw
                  case rel => exact ⟨j1, k + 1, rfl, by go_num, by omega, by omega, HJ, hO.drewN _, hA.drewN _, grown_drewN hG _⟩
                  case measure => simp [intOf]; omega
              · have hki2 : k = i := by omega
                subst hki2
                have hq : q = j + 1 := by rw [hI.out.num, hJ.out]
                subst hq
                go_wp2_with fail
                go_ret
                exact ⟨rfl, hG⟩

end Go.Proofs.Qxb6003764a.Str
