/-
  encodeOffsetVarint (9), walked.
-/
import Derived.Test.Qxb6003763aMem
import Derived.Test.Qxb6003763aEnc
import Derived.WalkSpells
import Derived.Deep.OwnRows
namespace Go.Proofs.Qxb6003763a
open Go.RowKit Go.Deep

def lo7 (n : Nat) : Nat := n % 128
theorem lo7_int (n : Nat) (h : n < 18446744073709551616) : bits .and .u64 (n : Int) 127 = ((lo7 n : Nat) : Int) := by
  have := bits_and_u64_nat n 127 h (by decide)
  rw [show ((127 : Nat) : Int) = 127 from rfl] at this
  rw [this, show (127 : Nat) = 2 ^ 7 - 1 from rfl, Nat.and_two_pow_sub_one_eq_mod]
  rfl
theorem lo7_wrap (n : Nat) : IntKind.u8.wrap ((lo7 n : Nat) : Int) = ((lo7 n : Nat) : Int) := by
  unfold lo7
  simp [IntKind.wrap, IntKind.bits, IntKind.signed]
  omega
def hi7 (n : Nat) : Nat := 128 + n % 128
theorem hi7_int (n : Nat) : bits .or .u8 128 ((lo7 n : Nat) : Int) = ((hi7 n : Nat) : Int) := by
  have : ∀ m, m < 128 → bits .or .u8 128 ((m : Nat) : Int) = ((128 + m : Nat) : Int) := by decide +kernel
  exact this _ (Nat.mod_lt _ (by omega))

theorem results_row_tmp {P : Program} {fn : Func} {p t : Tmp} {ty : TypeId} (h : fn.results = #[.cell p ty, .tmp t]) (tmps : Array Value) (w : World) (g : Nat) (tt : TypeId) (cs : Array Value) (fr : Nat × Nat) (d : TypeDesc)
    (hp : tmps.getD p undef = .pointer (some ⟨g, 0, none⟩)) (hg : w.heap[g]? = some (.cells cs tt fr))
    (hu : P.underlying ty = some d) (hd : (match d with | .struct _ | .array _ _ => true | _ => false) = true) (hi : (P.info? ty).map (·.size) = some cs.size) :
    (results fn tmps).run P w = .ok (.tuple #[.agg cs, tmps.getD t undef]) w := by
  have hp' : tmps[p]?.getD undef = .pointer (some ⟨g, 0, none⟩) := by simpa using hp
  simp [results, h, hp', asAddr, run_loadVar_row w g tt ty cs fr d hg hu hd hi]

def RetEnc (w : World) (n : Nat) (e : Ending) (w' : World) : Prop :=
  ∃ k, e = .returned (.tuple #[.agg (rowOf 10 (fun i => if i < k then rev n (k - 1 - i) else 0)), .int .i64 (k : Int)]) ∧ Takes n k ∧ k ≤ 10 ∧ w.grownBy w' none

/-- Ten stores. -/
theorem ten_cells {w : World} {b : Nat} (h : Blk w b 26 10 (fun _ => 0)) (G : Nat → Nat) :
    Blk ((((((((((w.setCell ⟨b, 0, none⟩ (.int .u8 (G 0 : Nat))).setCell ⟨b, 1, none⟩ (.int .u8 (G 1 : Nat))).setCell ⟨b, 2, none⟩ (.int .u8 (G 2 : Nat))).setCell ⟨b, 3, none⟩ (.int .u8 (G 3 : Nat))).setCell ⟨b, 4, none⟩ (.int .u8 (G 4 : Nat))).setCell ⟨b, 5, none⟩ (.int .u8 (G 5 : Nat))).setCell ⟨b, 6, none⟩ (.int .u8 (G 6 : Nat))).setCell ⟨b, 7, none⟩ (.int .u8 (G 7 : Nat))).setCell ⟨b, 8, none⟩ (.int .u8 (G 8 : Nat))).setCell ⟨b, 9, none⟩ (.int .u8 (G 9 : Nat))) b 26 10 G := by
  refine ((((((((((h.set 0 (G 0)).set 1 (G 1)).set 2 (G 2)).set 3 (G 3)).set 4 (G 4)).set 5 (G 5)).set 6 (G 6)).set 7 (G 7)).set 8 (G 8)).set 9 (G 9)).congr fun j hj => ?_
  match j, hj with
  | 0, _ => rfl
  | 1, _ => rfl
  | 2, _ => rfl
  | 3, _ => rfl
  | 4, _ => rfl
  | 5, _ => rfl
  | 6, _ => rfl
  | 7, _ => rfl
  | 8, _ => rfl
  | 9, _ => rfl
  | j + 10, h => omega
theorem ten_grown {a w : World} (h : a.grownBy w none) (G : Nat → Nat) :
    a.grownBy ((((((((((w.setCell ⟨a.heap.size, 0, none⟩ (.int .u8 (G 0 : Nat))).setCell ⟨a.heap.size, 1, none⟩ (.int .u8 (G 1 : Nat))).setCell ⟨a.heap.size, 2, none⟩ (.int .u8 (G 2 : Nat))).setCell ⟨a.heap.size, 3, none⟩ (.int .u8 (G 3 : Nat))).setCell ⟨a.heap.size, 4, none⟩ (.int .u8 (G 4 : Nat))).setCell ⟨a.heap.size, 5, none⟩ (.int .u8 (G 5 : Nat))).setCell ⟨a.heap.size, 6, none⟩ (.int .u8 (G 6 : Nat))).setCell ⟨a.heap.size, 7, none⟩ (.int .u8 (G 7 : Nat))).setCell ⟨a.heap.size, 8, none⟩ (.int .u8 (G 8 : Nat))).setCell ⟨a.heap.size, 9, none⟩ (.int .u8 (G 9 : Nat))) none :=
  grown_new (grown_set (grown_set (grown_set (grown_set (grown_set (grown_set (grown_set (grown_set (grown_set (grown_set (grown_any h) _ _) _ _) _ _) _ _) _ _) _ _) _ _) _ _) _ _) _ _) (Nat.le_refl _)

set_option maxHeartbeats 2000000 in
theorem enc_any (n : Nat) (hn : Hid (n < 18446744073709551616)) (w : World) : Calls Try.prog 9 #[.int .u64 (n : Int)] w (RetEnc w n) := by
  have r1 := lo7_int n hn.out
  have r2 := lo7_wrap n
  go_enter Try.func9, Try.ntmps9
  go_wp2
  go_loopw [0, 5] (fun us ks wr => ∃ k u : Nat, us = .int .u64 (u : Int) ∧ ks = .int .i64 (k : Int) ∧ 1 ≤ k ∧ k ≤ 10 ∧ Hid (u < 18446744073709551616 ∧ u = left n k ∧ ∀ t, 1 ≤ t → t < k → left n t ≠ 0) ∧ Blk wr w.heap.size 26 10 (fun _ => 0) ∧ Blk wr (w.heap.size + 1) 26 10 (fun t => if t < k then rev n t else 0) ∧ w.grownBy wr none) (fun _ ks _ => 10 - (intOf ks).toNat)
  case atStart =>
    exact ⟨1, n / 128, by go_num, rfl, by omega, by omega, ⟨by have := hn.out; omega, rfl, fun t h1 h2 => by omega⟩, heap_alloc2_old w _ _, heap_alloc2_new w _ _, grown_trans (grown_alloc _ _ _) (grown_alloc _ _ _)⟩
  case round =>
    obtain ⟨k, u, rfl, rfl, hk1, hk2, hu, hR, hV, hg⟩ := hrel
    obtain ⟨wo, hwo⟩ : ∃ x, x = wr := ⟨_, rfl⟩
    subst hwo
    by_cases hc : u = 0 ∨ k = 10
    · have HT : Hid (Takes n k) := by
        refine ⟨hk1, ?_, hu.out.2.2⟩
        rcases hc with hc | hc
        · rw [← hu.out.2.1]; exact hc
        · subst hc
          have := left_bound n 0 9 (by rw [left]; have h1 := hn.out; have h2 : (144115188075855872 : Nat) ≤ gAt 9 := by decide
                                       omega)
          have e : gAt 0 = 0 := rfl
          rw [show 0 + 1 + 9 = 10 by omega] at this
          omega
      have hcs : u = 0 ∨ (((u : Int) != 0) = true ∧ decide ((k : Int) < 10) = false) := by
        by_cases h0 : u = 0
        · exact .inl h0
        · exact .inr ⟨by simp; omega, decide_eq_false (by omega)⟩
      clear hc hu r1 r2
      have hbr : wo.heap.size ≠ w.heap.size ∧ wo.heap.size ≠ w.heap.size + 1 := by have := hV.lt; omega
      have hR2 := hR.kept (grown_alloc wo (.cells (rowOf 10 fun _ => 0) 26) none) (by intro e; cases e)
      have hV2 := hV.kept (grown_alloc wo (.cells (rowOf 10 fun _ => 0) 26) none) (by intro e; cases e)
      have hO2 := blk_alloc wo 26 10 (fun _ => 0)
      have hg2 := grown_trans hg (grown_alloc wo (.cells (rowOf 10 fun _ => 0) 26) none)
      have hsz := hg.size
      clear hR hV hg
      rcases hcs with h0 | ⟨h0, h1⟩
      · subst h0
        go_wp2
        go_loopw [7] (fun is w2 => ∃ i : Nat, is = .int .i64 (i : Int) ∧ i ≤ k ∧ Blk w2 w.heap.size 26 10 (fun _ => 0) ∧ Blk w2 (w.heap.size + 1) 26 10 (fun t => if t < k then rev n t else 0) ∧ Blk w2 wo.heap.size 26 10 (fun j => if j < i then rev n (k - 1 - j) else 0) ∧ w.grownBy w2 none) (fun is _ => k - (intOf is).toNat)
        case atStart => exact ⟨0, rfl, by omega, hR2, hV2, hO2.congr (fun j _ => by simp), hg2⟩
        case round =>
          clear hR2 hV2 hO2 hg2
          obtain ⟨i, rfl, hi, hR3, hV3, hO3, hg3⟩ := hrel
          by_cases hik : i < k
          · have c1 := hV3.cell (j := k - 1 - i) (by omega)
            rw [if_pos (by omega)] at c1
            have c2 := hO3.cell (j := i) (by omega)
            have f2 := hO3.free i
            have HB : Hid (Blk (wr.setCell ⟨wo.heap.size, i, none⟩ (.int .u8 ((rev n (k - 1 - i) : Nat) : Int))) w.heap.size 26 10 (fun _ => 0) ∧ Blk (wr.setCell ⟨wo.heap.size, i, none⟩ (.int .u8 ((rev n (k - 1 - i) : Nat) : Int))) (w.heap.size + 1) 26 10 (fun t => if t < k then rev n t else 0) ∧ Blk (wr.setCell ⟨wo.heap.size, i, none⟩ (.int .u8 ((rev n (k - 1 - i) : Nat) : Int))) wo.heap.size 26 10 (fun j => if j < i + 1 then rev n (k - 1 - j) else 0) ∧ w.grownBy (wr.setCell ⟨wo.heap.size, i, none⟩ (.int .u8 ((rev n (k - 1 - i) : Nat) : Int))) none) := by
              refine ⟨hR3.other (by simp; omega) _, hV3.other (by simp; omega) _, (hO3.set _ _).congr fun t _ => ?_, grown_new (grown_set (grown_any hg3) _ _) hsz⟩
              by_cases h1 : t = i
              · subst h1
                rw [if_pos rfl, if_pos (by omega)]
              · by_cases h2 : t < i
                · rw [if_neg h1, if_pos h2, if_pos (by omega)]
                · rw [if_neg h1, if_neg h2, if_neg (by omega)]
            clear hR3 hV3 hO3 hg3
            go_wp2
            go_roundw
            case rel => exact ⟨i + 1, by go_num, by omega, HB.out.1, HB.out.2.1, HB.out.2.2.1, HB.out.2.2.2⟩
            case measure => simp [intOf]; omega
          · have hik2 : i = k := by omega
            subst hik2
            obtain ⟨G, hG⟩ : ∃ G : Nat → Nat, G = fun j => if j < i then rev n (i - 1 - j) else 0 := ⟨_, rfl⟩
            rw [← hG] at hO3
            have HG : Hid _ := hG
            clear hG hV3
            have hO4 : wr.heap[wo.heap.size]? = some (.cells #[.int .u8 (G 0 : Nat), .int .u8 (G 1 : Nat), .int .u8 (G 2 : Nat), .int .u8 (G 3 : Nat), .int .u8 (G 4 : Nat), .int .u8 (G 5 : Nat), .int .u8 (G 6 : Nat), .int .u8 (G 7 : Nat), .int .u8 (G 8 : Nat), .int .u8 (G 9 : Nat)] 26 (0, 0)) := hO3
            have f0 := hR3.free
            have d0 := hR3.cell (j := 0) (by omega)
            have d1 := hR3.cell (j := 1) (by omega)
            have d2 := hR3.cell (j := 2) (by omega)
            have d3 := hR3.cell (j := 3) (by omega)
            have d4 := hR3.cell (j := 4) (by omega)
            have d5 := hR3.cell (j := 5) (by omega)
            have d6 := hR3.cell (j := 6) (by omega)
            have d7 := hR3.cell (j := 7) (by omega)
            have d8 := hR3.cell (j := 8) (by omega)
            have d9 := hR3.cell (j := 9) (by omega)
            clear hO3
            go_wp2_with (refine wpList_load_row rfl 26 _ rfl wo.heap.size rfl 26 _ (0, 0) _ hO4 Try.underlying26 rfl (by kernel_rfl) ?_)
            have hF := ten_cells hR3 G
            refine bodyPost_ret (results_row_tmp Try.results9 _ _ w.heap.size 26 _ (0, 0) _ rfl hF Try.underlying26 rfl (by kernel_rfl)) rfl ?_
            refine ⟨i, ?_, HT.out, hk2, ?_⟩
            · rw [HG.out]
              rfl
            · exact ten_grown hg3 G
      · go_wp2
        go_loopw [7] (fun is w2 => ∃ i : Nat, is = .int .i64 (i : Int) ∧ i ≤ k ∧ Blk w2 w.heap.size 26 10 (fun _ => 0) ∧ Blk w2 (w.heap.size + 1) 26 10 (fun t => if t < k then rev n t else 0) ∧ Blk w2 wo.heap.size 26 10 (fun j => if j < i then rev n (k - 1 - j) else 0) ∧ w.grownBy w2 none) (fun is _ => k - (intOf is).toNat)
        case atStart => exact ⟨0, rfl, by omega, hR2, hV2, hO2.congr (fun j _ => by simp), hg2⟩
        case round =>
          clear hR2 hV2 hO2 hg2
          obtain ⟨i, rfl, hi, hR3, hV3, hO3, hg3⟩ := hrel
          by_cases hik : i < k
          · have c1 := hV3.cell (j := k - 1 - i) (by omega)
            rw [if_pos (by omega)] at c1
            have c2 := hO3.cell (j := i) (by omega)
            have f2 := hO3.free i
            have HB : Hid (Blk (wr.setCell ⟨wo.heap.size, i, none⟩ (.int .u8 ((rev n (k - 1 - i) : Nat) : Int))) w.heap.size 26 10 (fun _ => 0) ∧ Blk (wr.setCell ⟨wo.heap.size, i, none⟩ (.int .u8 ((rev n (k - 1 - i) : Nat) : Int))) (w.heap.size + 1) 26 10 (fun t => if t < k then rev n t else 0) ∧ Blk (wr.setCell ⟨wo.heap.size, i, none⟩ (.int .u8 ((rev n (k - 1 - i) : Nat) : Int))) wo.heap.size 26 10 (fun j => if j < i + 1 then rev n (k - 1 - j) else 0) ∧ w.grownBy (wr.setCell ⟨wo.heap.size, i, none⟩ (.int .u8 ((rev n (k - 1 - i) : Nat) : Int))) none) := by
              refine ⟨hR3.other (by simp; omega) _, hV3.other (by simp; omega) _, (hO3.set _ _).congr fun t _ => ?_, grown_new (grown_set (grown_any hg3) _ _) hsz⟩
              by_cases h1 : t = i
              · subst h1
                rw [if_pos rfl, if_pos (by omega)]
              · by_cases h2 : t < i
                · rw [if_neg h1, if_pos h2, if_pos (by omega)]
                · rw [if_neg h1, if_neg h2, if_neg (by omega)]
            clear hR3 hV3 hO3 hg3
            go_wp2
            go_roundw
            case rel => exact ⟨i + 1, by go_num, by omega, HB.out.1, HB.out.2.1, HB.out.2.2.1, HB.out.2.2.2⟩
            case measure => simp [intOf]; omega
          · have hik2 : i = k := by omega
            subst hik2
            obtain ⟨G, hG⟩ : ∃ G : Nat → Nat, G = fun j => if j < i then rev n (i - 1 - j) else 0 := ⟨_, rfl⟩
            rw [← hG] at hO3
            have HG : Hid _ := hG
            clear hG hV3
            have hO4 : wr.heap[wo.heap.size]? = some (.cells #[.int .u8 (G 0 : Nat), .int .u8 (G 1 : Nat), .int .u8 (G 2 : Nat), .int .u8 (G 3 : Nat), .int .u8 (G 4 : Nat), .int .u8 (G 5 : Nat), .int .u8 (G 6 : Nat), .int .u8 (G 7 : Nat), .int .u8 (G 8 : Nat), .int .u8 (G 9 : Nat)] 26 (0, 0)) := hO3
            have f0 := hR3.free
            have d0 := hR3.cell (j := 0) (by omega)
            have d1 := hR3.cell (j := 1) (by omega)
            have d2 := hR3.cell (j := 2) (by omega)
            have d3 := hR3.cell (j := 3) (by omega)
            have d4 := hR3.cell (j := 4) (by omega)
            have d5 := hR3.cell (j := 5) (by omega)
            have d6 := hR3.cell (j := 6) (by omega)
            have d7 := hR3.cell (j := 7) (by omega)
            have d8 := hR3.cell (j := 8) (by omega)
            have d9 := hR3.cell (j := 9) (by omega)
            clear hO3
            go_wp2_with (refine wpList_load_row rfl 26 _ rfl wo.heap.size rfl 26 _ (0, 0) _ hO4 Try.underlying26 rfl (by kernel_rfl) ?_)
            have hF := ten_cells hR3 G
            refine bodyPost_ret (results_row_tmp Try.results9 _ _ w.heap.size 26 _ (0, 0) _ rfl hF Try.underlying26 rfl (by kernel_rfl)) rfl ?_
            refine ⟨i, ?_, HT.out, hk2, ?_⟩
            · rw [HG.out]
              rfl
            · exact ten_grown hg3 G
    · have hu0 : 0 < u := by omega
      have hk10 : k < 10 := by omega
      have hne : ((u : Int) != 0) = true := by simp; omega
      have hd : decide ((k : Int) < 10) = true := decide_eq_true (by omega)
      have c1 := hV.cell hk10
      have f1 := hV.free k
      have e1 : IntKind.u64.wrap ((u : Int) - 1) = ((u - 1 : Nat) : Int) := by have := hu.out.1; rw [IntKind.wrap_u64]; omega
      have r3 := lo7_int (u - 1) (by have := hu.out.1; omega)
      have r4 := lo7_wrap (u - 1)
      have r5 := hi7_int (u - 1)
      clear hc r1 r2
      have HU : Hid ((u - 1) / 128 < 18446744073709551616 ∧ (u - 1) / 128 = left n (k + 1) ∧ ∀ t, 1 ≤ t → t < k + 1 → left n t ≠ 0) := by
        obtain ⟨a1, a2, a3⟩ := hu.out
        obtain ⟨s, rfl⟩ : ∃ s, k = s + 1 := ⟨k - 1, by omega⟩
        refine ⟨by omega, by rw [left, ← a2], fun t h1 h2 => ?_⟩
        by_cases h3 : t = s + 1
        · rw [h3, ← a2]; omega
        · exact a3 t h1 (by omega)
      have HB : Hid (Blk (wo.setCell ⟨w.heap.size + 1, k, none⟩ (.int .u8 ((hi7 (u - 1) : Nat) : Int))) w.heap.size 26 10 (fun _ => 0) ∧ Blk (wo.setCell ⟨w.heap.size + 1, k, none⟩ (.int .u8 ((hi7 (u - 1) : Nat) : Int))) (w.heap.size + 1) 26 10 (fun t => if t < k + 1 then rev n t else 0) ∧ w.grownBy (wo.setCell ⟨w.heap.size + 1, k, none⟩ (.int .u8 ((hi7 (u - 1) : Nat) : Int))) none) := by
        refine ⟨hR.other (by simp) _, (hV.set _ _).congr fun t _ => ?_, grown_new (grown_set (grown_any hg) _ _) (by omega)⟩
        by_cases h1 : t = k
        · subst h1
          obtain ⟨s, rfl⟩ : ∃ s, t = s + 1 := ⟨t - 1, by omega⟩
          rw [if_pos rfl, if_pos (by omega), rev, ← hu.out.2.1]
          rfl
        · by_cases h2 : t < k
          · rw [if_neg h1, if_pos h2, if_pos (by omega)]
          · rw [if_neg h1, if_neg h2, if_neg (by omega)]
      clear hu hR hV hg
      go_wp2
      go_roundw
      case rel => exact ⟨k + 1, (u - 1) / 128, by go_num, by go_num, by omega, by omega, HU, HB.out.1, HB.out.2.1, HB.out.2.2⟩
      case measure => simp [intOf]; omega

end Go.Proofs.Qxb6003763a
