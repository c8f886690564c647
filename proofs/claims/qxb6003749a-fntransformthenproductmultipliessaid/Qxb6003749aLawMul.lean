/-
  THE LAW FnTransformThenProductMultiplies (6): its walk.
-/
import Derived.Test.Qxb6003749aLens
import Derived.Test.Qxb6003749aLawMulP
namespace Go.Proofs.Qxb6003749a
open Go.RowKit Go.Deep

theorem quo_px {bl wd px : Nat} (hw : 1 ≤ wd) (hp : px = (bl + wd - 1) / wd) : ((bl : Int) + (wd : Int) - 1) / (wd : Int) = (px : Int) := by
  rw [show (bl : Int) + (wd : Int) - 1 = ((bl + wd - 1 : Nat) : Int) by omega, hp]
  simp

/-- One product of two values. -/
theorem mul_val {X Y wd n m E k : Nat} {a b : Nat → Nat} {r : Nat} (hF : Fits X Y wd n m) (ha : TrVal m n E X wd a) (hb : TrVal m n E Y wd b) (hk : k < n) (hr : Cg (r : Int) (((a k : Nat) : Int) * ((b k : Nat) : Int))) : Cg (r : Int) (psum (ints (coef X Y wd n)) (((7 : Int) ^ E) ^ revK k m) n) := by
  refine hr.trans (((ha k hk).mul (hb k hk)).trans (Cg.of_eq ?_))
  exact coef_val hF _

/-- The products so far. -/
structure MulPart (X Y wd n m E : Nat) (a c : Nat → Nat) (k : Nat) : Prop where
  done : ∀ i, i < k → Cg ((c i : Nat) : Int) (psum (ints (coef X Y wd n)) (((7 : Int) ^ E) ^ revK i m) n)
  left : ∀ i, k ≤ i → i < n → c i = a i
  wd : ∀ i, i < n → Wd (c i)

theorem mulPart_step {X Y wd n m E k r : Nat} {a b c : Nat → Nat} (hF : Fits X Y wd n m) (ha : TrVal m n E X wd a) (hb : TrVal m n E Y wd b) (hP : MulPart X Y wd n m E a c k) (hk : k < n) (hr : Cg (r : Int) (((a k : Nat) : Int) * ((b k : Nat) : Int))) (hrw : Wd r) :
    MulPart X Y wd n m E a (fun i => if i = k then r else c i) (k + 1) := by
  refine ⟨fun i hi => ?_, fun i h1 h2 => ?_, fun i hi => ?_⟩
  · show Cg (((if i = k then r else c i : Nat)) : Int) _
    by_cases h : i = k
    · subst h
      rw [if_pos rfl]
      exact mul_val hF ha hb hk hr
    · rw [if_neg h]
      exact hP.done i (by omega)
  · show (if i = k then r else c i) = a i
    rw [if_neg (by omega)]
    exact hP.left i (by omega) h2
  · show Wd (if i = k then r else c i)
    split
    · exact hrw
    · exact hP.wd i hi

set_option maxHeartbeats 8000000 in
set_option maxRecDepth 20000 in
theorem mulLaw_main (xa ya : Option Addr) (lx ly cx cy n m H wd : Nat) (x y : Nat → Nat) (w : World) {T1 T2 : Nat → Prop} (hx0 : Rd T1 w xa lx x) (hy0 : Rd T2 w ya ly y) (hnx : xa = none → lx = 0) (hny : ya = none → ly = 0) (hlx : lx ≤ 1024) (hly : ly ≤ 1024) (hxw : Hid (∀ j, j < lx → x j < 2 ^ 64)) (hyw : Hid (∀ j, j < ly → y j < 2 ^ 64))
    (hm : Hid (n = 2 ^ m)) (hH : Hid (H = 2 ^ (m - 1))) (hd : Hid ((n : Int) / 2 = (H : Int))) (hH2 : H ≤ 2048) (hm1 : 1 ≤ m) (hm2 : m ≤ 12) (hn1 : 2 ≤ n) (hn : n ≤ 4096) (hp2 : Hid (n &&& (n - 1) = 0)) (hw1 : 1 ≤ wd) (hwi : wd ≤ 9223372036854775807) :
    Calls Try.prog 6 #[.slice xa lx cx, .slice ya ly cy, .int .i64 (n : Int), .int .i64 (wd : Int)] w (LawTrue w) := by
  have hwd0 : decide ((wd : Int) < 1) = false := decide_eq_false (by omega)
  go_enter Try.func6, Try.ntmps6
  go_wp2_with (first | (go_at_call 24; go_in) | (go_at_call 12; refine (isPow2_yes n (by omega) (by omega) hp2.out _).mono ?_; rintro e w' ⟨rfl, hw'⟩; obtain rfl := hw'.symm))
  refine (wmax_any n m H hm hH hd.out hH2 hm1 hm2 w).mono ?_
  rintro e w' ⟨wm, rfl, hwm1, hwm2, hw'⟩
  obtain rfl := hw'.symm
  by_cases hww : wm < wd
  · go_wp2_with fail
    go_ret
    exact ⟨rfl, grown_refl _ _⟩
  · go_wp2_with fail
    refine (bitLenWords_any xa lx cx x w hx0 hlx hxw).mono ?_
    rintro e w' ⟨bx, rfl, hbx, hbxc, hw'⟩
    obtain rfl := hw'.symm
    obtain ⟨px, hpx⟩ : ∃ px, px = (bx + wd - 1) / wd := ⟨_, rfl⟩
    have HPX : Hid (px = (bx + wd - 1) / wd) := hpx
    have HBX : Hid (num lx x < 2 ^ bx) := hbxc
    have q1 := quo_px hw1 hpx
    have hpxl := pieces_le hw1 (by omega) hpx
    clear hpx hbxc
    go_wp2_with fail
    refine (bitLenWords_any ya ly cy y w hy0 hly hyw).mono ?_
    rintro e w' ⟨by_, rfl, hby, hbyc, hw'⟩
    obtain rfl := hw'.symm
    obtain ⟨py, hpy⟩ : ∃ py, py = (by_ + wd - 1) / wd := ⟨_, rfl⟩
    have HPY : Hid (py = (by_ + wd - 1) / wd) := hpy
    have HBY : Hid (num ly y < 2 ^ by_) := hbyc
    have q2 := quo_px hw1 hpy
    have hpyl := pieces_le hw1 (by omega) hpy
    clear hpy hbyc
    by_cases hfit : n + 1 < px + py
    · go_wp2_with fail
      go_ret
      exact ⟨rfl, grown_refl _ _⟩
    · go_wp2_with fail
      have HF : Hid (Fits (num lx x) (num ly y) wd n m) := ⟨hm.out, hm1, hm2, hw1, by omega, by omega, px, py, by omega, pieces_hold hw1 HBX.out HPX.out, pieces_hold hw1 HBY.out HPY.out⟩
      have hE := quo_eOf hm.out
      obtain ⟨E, hEe⟩ : ∃ E, E = eOf m := ⟨_, rfl⟩
      rw [← hEe] at hE
      have HEe : Hid (E = eOf m) := hEe
      have hEw : Wd E := by rw [hEe]; exact eOf_wd m
      have HE : Hid ((18446744069414584320 : Int) / (n : Int) = (E : Int)) := hE
      have hwd31 : wd ≤ 31 := by omega
      clear hwi hEe hE q1 q2 HPX HPY HBX HBY hpxl hpyl hfit hww hwm1 hwm2 hbx hby
      refine (cloneUint xa lx cx x w hx0 (by omega) hnx).mono ?_
      rintro e w1 ⟨xb, xc, rfl, hx1, hg1⟩
      have hy1 := hy0.keptNew hg1
      go_wp2_with fail
      refine (cloneUint ya ly cy y w1 hy1 (by omega) hny).mono ?_
      rintro e w2 ⟨yb, yc, rfl, hy2, hg2⟩
      have hx2 := hx1.keptNew hg2
      go_wp2_with fail
      refine (zzTransform_any xb lx xc n m wd E x w2 hx2 hlx hm (by omega) (by omega) hn hw1 (by omega) HE HEe hEw hxw).mono ?_
      rintro e w3 ⟨ba, a, rfl, hba, hA3, haw3, hTa, hg3⟩
      have HAW : Hid (∀ i, i < n → Wd (a i)) := haw3
      have HTA : Hid _ := hTa
      clear haw3 hTa
      have hy3 := hy2.keptNew hg3
      have hx3 := hx2.keptNew hg3
      go_wp2_with fail
      refine (zzTransform_any yb ly yc n m wd E y w3 hy3 hly hm (by omega) (by omega) hn hw1 (by omega) HE HEe hEw hyw).mono ?_
      rintro e w4 ⟨bb, b, rfl, hbb, hB4, hbw4, hTb, hg4⟩
      have HBW : Hid (∀ i, i < n → Wd (b i)) := hbw4
      have HTB : Hid _ := hTb
      clear hbw4 hTb
      have hA4 := hA3.kept hg4 (by intro e; cases e)
      have hne : ba ≠ bb := by have := hA3.lt; omega
      have hba2 : w2.heap.size ≤ ba := hba
      have hx4 : Rd (fun t => t < ba) w4 xb lx x := ((hx2.mono (S' := fun t => t < ba) (fun t ht _ => by omega)).keptNew hg3).keptNew hg4
      have hy4 : Rd (fun t => t < ba) w4 yb ly y := ((hy2.mono (S' := fun t => t < ba) (fun t ht _ => by omega)).keptNew hg3).keptNew hg4
      have HP0 : Hid (MulPart (num lx x) (num ly y) wd n m E a a 0) := ⟨fun i hi => absurd hi (by omega), fun _ _ _ => rfl, HAW.out⟩
      have hgw4 : w.grownBy w4 none := grown_trans hg1 (grown_trans hg2 (grown_trans hg3 hg4))
      have hszw : w.heap.size ≤ ba := Nat.le_trans hg1.size (Nat.le_trans hg2.size hba)
      clear hA3 hx1 hx2 hx3 hy1 hy2 hy3 hg1 hg2 hg3 hg4 hx0 hy0
      go_wp2_with fail
      go_loopw [13] (fun is wr => ∃ (k : Nat) (c : Nat → Nat), k ≤ n ∧ is = .int .i64 (k : Int) ∧ Hid (MulPart (num lx x) (num ly y) wd n m E a c k) ∧ Blk wr ba 27 n c ∧ w4.grownBy wr (some ba)) (fun is _ => n - (intOf is).toNat)
      case atStart => exact ⟨0, a, Nat.zero_le _, rfl, HP0, hA4, grown_refl _ _⟩
      case round =>
        clear hA4 HP0
        obtain ⟨k, c, hk, rfl, hP, hA, hgr⟩ := hrel
        by_cases hlt : k < n
        · have c1 := hA.cell hlt
          rw [hP.out.left k (Nat.le_refl _) hlt] at c1
          have c2 := (hB4.kept hgr (by intro e; exact hne (Option.some.inj e))).cell hlt
          have f1 := hA.free k
          have w1' := HAW.out k hlt
          have w2' := HBW.out k hlt
          have k1 : (k : Int) < (n : Int) := by omega
          have k2 : (0 : Int) ≤ (k : Int) := by omega
          go_wp2_with fail
          go_region_with (first | (go_at_call 28; refine (zzMulMod_any _ _ w1' w2' _).mono ?_; rintro e w' ⟨r, rfl, hr, hrc, hw'⟩; obtain rfl := hw'.symm))
          all_goals
            have HPS : Hid _ := mulPart_step HF.out HTA.out HTB.out hP.out hlt hrc hr
            have HB : Hid (Blk (wr.setCell ⟨ba, k, none⟩ (.int .u64 (r : Int))) ba 27 n (fun i => if i = k then r else c i) ∧ w4.grownBy (wr.setCell ⟨ba, k, none⟩ (.int .u64 (r : Int))) (some ba)) := ⟨hA.set _ _, grown_set hgr _ _⟩
            clear hrc hA hgr
            go_wp2_with fail
            go_roundw
            case rel => exact ⟨k + 1, _, by omega, by go_num, HPS, HB.out.1, grown_drew HB.out.2⟩
            case measure => simp [intOf]; omega
        · have hkn : k = n := by omega
          subst hkn
          have hx5 := hx4.kept hgr (by intro r hr hS; have := Option.some.inj hr; omega)
          have hy5 := hy4.kept hgr (by intro r hr hS; have := Option.some.inj hr; omega)
          have HCW : Hid (∀ i, i < k → Wd (c i)) := hP.out.wd
          have HCV : Hid _ := hP.out.done
          have HCP : Hid (∀ i, i < k → coef (num lx x) (num ly y) wd k i < pP) := fun i _ => (coef_fine HF.out i).2
          have HOV : Hid (∀ i, i * wd / 64 < lx + ly → sumAt wd k (coef (num lx x) (num ly y) wd k) i < 2 ^ 64) := fun i _ => coef_over HF.out i
          have HCS : Hid (csum wd k (coef (num lx x) (num ly y) wd k) k = num lx x * num ly y) := coef_sum HF.out
          have hwds : Hid ((64 * ((lx : Int) + (ly : Int)) + 64 - 1) / 64 = (((lx + ly : Nat)) : Int)) := by show _ = _; omega
          clear hP hx4 hy4 hB4
          go_wp2_with fail
          refine (zzProduct_any ba k m wd (lx + ly) E (64 * ((lx : Int) + (ly : Int))) c (coef (num lx x) (num ly y) wd k) wr hA hm (by omega) hn1 hn hw1 (by omega) (by omega) (by omega) (by omega) hwds HE HEe hEw HCW HCV HCP HOV).mono ?_
          rintro e w6 ⟨bg, ig, rfl, hbg, hNg, hG, hg6⟩
          have hx6 := hx5.kept hg6 (by intro r hr hS; have := Option.some.inj hr; omega)
          have hy6 := hy5.kept hg6 (by intro r hr hS; have := Option.some.inj hr; omega)
          rw [HCS.out] at hNg hG
          have HNG : Hid (Norm (lx + ly) (fun t => num lx x * num ly y / 2 ^ (64 * t) % 2 ^ 64) ig) := hNg
          have higl : ig ≤ lx + ly := hNg.1
          clear hNg HCV HCP HOV HCS hwds
          go_wp2_with fail
          refine (school_any xb yb lx ly xc yc x y w6 hx6 hy6 hlx hly hxw hyw).mono ?_
          rintro e w7 ⟨bs, rfl, hbs, hS7, hg7⟩
          go_wp2_with fail
          refine (trim_any bs (lx + ly) _ w7 hS7 (by omega)).mono ?_
          rintro e w' ⟨iw, rfl, hNw, hw'⟩
          obtain rfl := hw'.symm
          have hii : ig = iw := HNG.out.unique hNw (fun t _ => rfl)
          subst hii
          have hG7 := hG.kept hg7 (by intro e; cases e)
          have hgw7 : w.grownBy w7 none := grown_trans (grown_far (grown_far hgw4 hgr hszw) hg6 hszw) hg7
          obtain ⟨V, hV⟩ : ∃ V : Nat → Nat, V = fun t => num lx x * num ly y / 2 ^ (64 * t) % 2 ^ 64 := ⟨_, rfl⟩
          rw [← hV] at hG7 hS7
          clear hV hNw HNG hG hx6 hy6 hx5 hy5 hg7 hg6 hgr hgw4 hA
          go_wp2_with fail
          go_loopw [16] (fun is wr => ∃ t : Nat, t ≤ ig ∧ is = .int .i64 (t : Int) ∧ Blk wr bg 28 ig V ∧ Blk wr bs 27 (lx + ly) V ∧ w.grownBy wr none) (fun is _ => ig - (intOf is).toNat)
          case atStart => exact ⟨0, Nat.zero_le _, rfl, hG7, hS7, hgw7⟩
          case round =>
            clear hG7 hS7 hgw7
            obtain ⟨t, ht, rfl, hG, hSb, hgr⟩ := hrel
            by_cases htl : t < ig
            · have c1 := hG.cell htl
              have c2 := hSb.cell (show t < lx + ly by omega)
              go_wp2_with fail
              go_region
              all_goals go_wp2_with fail
              all_goals go_roundw
              case rel => exact ⟨t + 1, by omega, by go_num, hG, hSb, grown_drew hgr⟩
              case measure => simp [intOf]; omega
            · go_wp2_with fail
              go_ret
              exact ⟨rfl, hgr⟩

end Go.Proofs.Qxb6003749a
