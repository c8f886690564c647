/-
  zzMul64 (45), zzSchool (31), zzTrim (30).
-/
import Derived.Test.Qxb6003749aSchoolP
import Derived.Test.Qxb6003749aProduct
namespace Go.Proofs.Qxb6003749a
open Go.RowKit Go.Deep

set_option maxHeartbeats 2000000 in
theorem zzMul64_any (x y : Nat) (hx : Hid (x < 18446744073709551616)) (hy : Hid (y < 18446744073709551616)) (w : World) : Calls Try.prog 45 #[.int .u64 (x : Int), .int .u64 (y : Int)] w (Ret2 w (hiM x y) (loM x y)) := by
  have r1 := and32_int x hx.out
  have r2 := and32_int y hy.out
  have r3 := shr32_int x
  have r4 := shr32_int y
  have hAl := mA_le x y
  have hBl := mB_le x y hx.out
  have hCl := mC_le x y hy.out
  have hEl := mE_le x y hx.out hy.out
  have r5 : IntKind.u64.wrap (((l32 x : Nat) : Int) * ((l32 y : Nat) : Int)) = ((mA x y : Nat) : Int) := wrapn (by omega) (mul_int _ _ _ rfl)
  have r6 : IntKind.u64.wrap (((h32 x : Nat) : Int) * ((l32 y : Nat) : Int)) = ((mB x y : Nat) : Int) := wrapn (by omega) (mul_int _ _ _ rfl)
  have r7 : IntKind.u64.wrap (((l32 x : Nat) : Int) * ((h32 y : Nat) : Int)) = ((mC x y : Nat) : Int) := wrapn (by omega) (mul_int _ _ _ rfl)
  have r8 : IntKind.u64.wrap (((h32 x : Nat) : Int) * ((h32 y : Nat) : Int)) = ((mE x y : Nat) : Int) := wrapn (by omega) (mul_int _ _ _ rfl)
  have r9 := shr32_int (mA x y)
  have r10 := and32_int (mA x y) (by omega)
  have r11 := and32_int (mC x y) (by omega)
  have r12 := and32_int (mB x y) (by omega)
  have hml := mid_lt x y
  have r13 : IntKind.u64.wrap (IntKind.u64.wrap (((h32 (mA x y) : Nat) : Int) + ((l32 (mC x y) : Nat) : Int)) + ((l32 (mB x y) : Nat) : Int)) = ((mMid x y : Nat) : Int) := by
    have ra : IntKind.u64.wrap (((h32 (mA x y) : Nat) : Int) + ((l32 (mC x y) : Nat) : Int)) = ((h32 (mA x y) + l32 (mC x y) : Nat) : Int) := wrapn (by unfold mMid at hml; omega) (by omega)
    rw [ra]
    exact wrapn hml (by unfold mMid; omega)
  have r14 : IntKind.u64.wrap (((mMid x y : Nat) : Int) * 4294967296) = ((mMid x y * 4294967296 % 18446744073709551616 : Nat) : Int) := wrapn_mod _ (by omega)
  have r15 : bits .or .u64 ((l32 (mA x y) : Nat) : Int) (IntKind.u64.wrap (((mMid x y : Nat) : Int) * 4294967296)) = ((loM x y : Nat) : Int) := by
    rw [r14, bits_or_u64_nat _ _ (by have := l32_le (mA x y); omega) (Nat.mod_lt _ (by decide)), lo_or]
  have r16 := shr32_int (mC x y)
  have r17 := shr32_int (mB x y)
  have r18 := shr32_int (mMid x y)
  have hHl := hiM_lt x y hx.out hy.out
  have hHe := hi_eq2 x y
  have r19 : IntKind.u64.wrap (((mE x y : Nat) : Int) + ((h32 (mC x y) : Nat) : Int)) = ((mG x y : Nat) : Int) := wrapn (by unfold mH at hHe; omega) (by unfold mG; omega)
  have r20 : IntKind.u64.wrap (((mG x y : Nat) : Int) + ((h32 (mB x y) : Nat) : Int)) = ((mH x y : Nat) : Int) := wrapn (by omega) (by unfold mH; omega)
  have r21 : IntKind.u64.wrap (((mH x y : Nat) : Int) + ((h32 (mMid x y) : Nat) : Int)) = ((hiM x y : Nat) : Int) := wrapn hHl (by rw [← hHe]; omega)
  clear hHl hHe r14 hml hAl hBl hCl hEl
  go_enter Try.func45, Try.ntmps45
  go_wp2
  go_ret2
  exact ⟨rfl, rfl⟩

/-- The product's words in a new row. -/
theorem sch_wd {x y z : Nat → Nat} {lx ly i j c : Nat} (h : SchIn x y lx ly i j z c) : ∀ t, t < lx + ly → Wd (z t) := h.wd

set_option maxHeartbeats 4000000 in
theorem school_any (xa ya : Option Addr) (lx ly cx cy : Nat) (x y : Nat → Nat) (w : World) {T1 T2 : Nat → Prop} (hx0 : Rd T1 w xa lx x) (hy0 : Rd T2 w ya ly y) (hlx : lx ≤ 1024) (hly : ly ≤ 1024) (hxw : Hid (∀ j, j < lx → x j < 2 ^ 64)) (hyw : Hid (∀ j, j < ly → y j < 2 ^ 64)) :
    Calls Try.prog 31 #[.slice xa lx cx, .slice ya ly cy] w (RetNew w 27 (lx + ly) (fun t => num lx x * num ly y / 2 ^ (64 * t) % 2 ^ 64)) := by
  have hmk := mk25 (lx + ly) (by omega)
  rw [show (((lx + ly : Nat)) : Int) = (lx : Int) + (ly : Int) by omega] at hmk
  go_enter Try.func31, Try.ntmps31
  go_wp2_with fail
  clear hmk
  go_loopw [6] (fun is wr => ∃ (i : Nat) (z : Nat → Nat), i ≤ lx ∧ is = .int .i64 (i : Int) ∧ Hid (SchOut x y lx ly i z) ∧ Blk wr w.heap.size 27 (lx + ly) z ∧ w.grownBy wr none) (fun is _ => lx - (intOf is).toNat)
  case atStart => exact ⟨0, _, Nat.zero_le _, rfl, sch_start x y lx ly, blk_alloc w 27 (lx + ly) _, grown_alloc _ _ _⟩
  case round =>
    obtain ⟨i, z, hi, rfl, hO, hb, hgr⟩ := hrel
    by_cases hlt : i < lx
    · have HI : Hid (SchIn x y lx ly i 0 z 0) := sch_in hO.out
      clear hO
      go_wp2_with fail
      go_loopw [7, 8] (fun cs js wr => ∃ (j c : Nat) (z : Nat → Nat), j ≤ ly ∧ js = .int .i64 (j : Int) ∧ cs = .int .u64 (c : Int) ∧ Hid (SchIn x y lx ly i j z c) ∧ Blk wr w.heap.size 27 (lx + ly) z ∧ w.grownBy wr none) (fun _ js _ => ly - (intOf js).toNat)
      case atStart => exact ⟨0, 0, z, Nat.zero_le _, rfl, rfl, HI, hb, hgr⟩
      case round =>
        clear hb hgr HI
        obtain ⟨j, c, z, hj, rfl, rfl, hI, hb, hgr⟩ := hrel
        by_cases hjl : j < ly
        · rcases hx0 with hx0 | ⟨bx, ox, rfl, hSx, hcx⟩
          · omega
          rcases hy0 with hy0 | ⟨by_, oy, rfl, hSy, hcy⟩
          · omega
          have c1 : wr.cell? ⟨bx, ox + i, none⟩ = some (.int .u64 ((x i : Nat) : Int)) := cell_kept hgr (by intro e; cases e) (hcx i hlt)
          have c2 : wr.cell? ⟨by_, oy + j, none⟩ = some (.int .u64 ((y j : Nat) : Int)) := cell_kept hgr (by intro e; cases e) (hcy j hjl)
          have w1 : Hid (x i < 18446744073709551616) := hxw.out i hlt
          have w2 : Hid (y j < 18446744073709551616) := hyw.out j hjl
          have k1 : (i : Int) < (lx : Int) := by omega
          have k2 : (j : Int) < (ly : Int) := by omega
          have k3 : (0 : Int) ≤ (i : Int) := by omega
          have k4 : (0 : Int) ≤ (j : Int) := by omega
          go_wp2_with fail
          go_region_held3 (fun w' => w'.cell? ⟨bx, ox + i, none⟩ = some (.int .u64 ((x i : Nat) : Int)) ∧ w'.cell? ⟨by_, oy + j, none⟩ = some (.int .u64 ((y j : Nat) : Int))) (exact ⟨c1, c2⟩) (first | (go_at_call 45; refine (zzMul64_any _ _ w1 w2 _).mono ?_; rintro e w' ⟨rfl, hw'⟩; obtain rfl := hw'.symm))
          have c3 := hb.cell (j := i + j) (by omega)
          have f3 := hb.free (i + j)
          have hzw := hI.out.wd (i + j) (by omega)
          have hcw := hI.out.car
          have ⟨hws, hwl⟩ := word_step (z (i + j)) (x i) (y j) c hzw w1.out w2.out hcw
          have hlo : loM (x i) (y j) < 18446744073709551616 := Nat.mod_lt _ (by decide)
          have hsl : lo64 (z (i + j)) (loM (x i) (y j)) < 18446744073709551616 := Nat.mod_lt _ (by decide)
          have hs2 : lo64 (lo64 (z (i + j)) (loM (x i) (y j))) c < 18446744073709551616 := Nat.mod_lt _ (by decide)
          have hh1 := hi64_lt hzw hlo
          have hh2 := hi64_lt hsl hcw
          have HST : ∀ c' : Nat, c' = hiM (x i) (y j) + hi64 (z (i + j)) (loM (x i) (y j)) + hi64 (lo64 (z (i + j)) (loM (x i) (y j))) c → SchIn x y lx ly i (j + 1) (fun t => if t = i + j then lo64 (lo64 (z (i + j)) (loM (x i) (y j))) c else z t) c' := by
            intro c' he
            subst he
            exact sch_step hI.out hlt hjl hws hs2 hwl
          have HB : Hid (Blk (wr.setCell ⟨w.heap.size, i + j, none⟩ (.int .u64 ((lo64 (lo64 (z (i + j)) (loM (x i) (y j))) c : Nat) : Int))) w.heap.size 27 (lx + ly) (fun t => if t = i + j then lo64 (lo64 (z (i + j)) (loM (x i) (y j))) c else z t) ∧ w.grownBy (wr.setCell ⟨w.heap.size, i + j, none⟩ (.int .u64 ((lo64 (lo64 (z (i + j)) (loM (x i) (y j))) c : Nat) : Int))) none) :=
            ⟨hb.set _ _, grown_new (grown_set (grown_any hgr) _ _) (Nat.le_refl _)⟩
          have r1 : IntKind.u64.wrap (((z (i + j) : Nat) : Int) + ((loM (x i) (y j) : Nat) : Int)) = ((lo64 (z (i + j)) (loM (x i) (y j)) : Nat) : Int) := wrapn_mod _ (by omega)
          have r2 : IntKind.u64.wrap (((lo64 (z (i + j)) (loM (x i) (y j)) : Nat) : Int) + (c : Int)) = ((lo64 (lo64 (z (i + j)) (loM (x i) (y j))) c : Nat) : Int) := wrapn_mod _ (by omega)
          have HH : Hid (hiM (x i) (y j) + hi64 (z (i + j)) (loM (x i) (y j)) + hi64 (lo64 (z (i + j)) (loM (x i) (y j))) c < 18446744073709551616) := hwl
          have HST2 : Hid _ := HST
          clear hws hwl hlo hsl hs2 hzw hcw HST hb hgr hI
          by_cases t1 : lo64 (z (i + j)) (loM (x i) (y j)) < loM (x i) (y j)
          · have e1 : Hid _ := hh1.1 t1
            by_cases t2 : lo64 (lo64 (z (i + j)) (loM (x i) (y j))) c < c
            · have e2 : Hid _ := hh2.1 t2
              clear hh1 hh2
              go_wp2_with fail
              go_roundw
              case rel => exact ⟨j + 1, hiM (x i) (y j) + 2, _, by omega, by go_num, int_eq (by have h1 := HH.out; rw [e1.out, e2.out] at h1; simp only [IntKind.wrap_u64]; omega), HST2.out _ (by have q1 := e1.out; have q2 := e2.out; omega), HB.out.1, grown_drew HB.out.2⟩
              case measure => simp [intOf]; omega
            · have e2 : Hid _ := hh2.2 t2
              clear hh1 hh2
              go_wp2_with fail
              go_roundw
              case rel => exact ⟨j + 1, hiM (x i) (y j) + 1, _, by omega, by go_num, int_eq (by have h1 := HH.out; rw [e1.out, e2.out] at h1; simp only [IntKind.wrap_u64]; omega), HST2.out _ (by have q1 := e1.out; have q2 := e2.out; omega), HB.out.1, grown_drew HB.out.2⟩
              case measure => simp [intOf]; omega
          · have e1 : Hid _ := hh1.2 t1
            by_cases t2 : lo64 (lo64 (z (i + j)) (loM (x i) (y j))) c < c
            · have e2 : Hid _ := hh2.1 t2
              clear hh1 hh2
              go_wp2_with fail
              go_roundw
              case rel => exact ⟨j + 1, hiM (x i) (y j) + 1, _, by omega, by go_num, int_eq (by have h1 := HH.out; rw [e1.out, e2.out] at h1; simp only [IntKind.wrap_u64]; omega), HST2.out _ (by have q1 := e1.out; have q2 := e2.out; omega), HB.out.1, grown_drew HB.out.2⟩
              case measure => simp [intOf]; omega
            · have e2 : Hid _ := hh2.2 t2
              clear hh1 hh2
              go_wp2_with fail
              go_roundw
              case rel => exact ⟨j + 1, hiM (x i) (y j), _, by omega, by go_num, int_eq (by have h1 := HH.out; rw [e1.out, e2.out] at h1; simp only [IntKind.wrap_u64]; omega), HST2.out _ (by have q1 := e1.out; have q2 := e2.out; omega), HB.out.1, grown_drew HB.out.2⟩
              case measure => simp [intOf]; omega
        · have hjy : j = ly := by omega
          subst hjy
          have HO : Hid _ := sch_out hI.out hlt
          have c3 := hb.cell (j := i + j) (by omega)
          have f3 := hb.free (i + j)
          have HB : Hid (Blk (wr.setCell ⟨w.heap.size, i + j, none⟩ (.int .u64 (c : Int))) w.heap.size 27 (lx + j) (fun t => if t = i + j then c else z t) ∧ w.grownBy (wr.setCell ⟨w.heap.size, i + j, none⟩ (.int .u64 (c : Int))) none) :=
            ⟨hb.set _ _, grown_new (grown_set (grown_any hgr) _ _) (Nat.le_refl _)⟩
          clear hb hgr
          go_wp2_with fail
          go_roundw
          case rel => exact ⟨i + 1, _, by omega, by go_num, HO, HB.out.1, HB.out.2⟩
          case measure => simp [intOf]; omega
    · have hix : i = lx := by omega
      subst hix
      have HE : Hid (Blk wr w.heap.size 27 (i + ly) (fun t => num i x * num ly y / 2 ^ (64 * t) % 2 ^ 64)) := hb.congr (fun t ht => sch_end hO.out t ht)
      go_wp2_with fail
      go_ret
      exact ⟨_, rfl, Nat.le_refl _, HE.out, hgr⟩

end Go.Proofs.Qxb6003749a
