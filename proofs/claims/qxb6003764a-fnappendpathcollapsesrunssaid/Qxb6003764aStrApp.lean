/-
  appendPath (19), ZZappendPath (10), walked.
-/
import Derived.Test.Qxb6003764aStrSmall
namespace Go.Proofs.Qxb6003764a.Str
open Go.RowKit Go.Deep

/-- What appendPath makes of n strings o and the string s. Strings are told apart by their bytes. -/
def Step (n : Nat) (o : Nat → ByteArray) (s : ByteArray) (n' : Nat) (o' : Nat → ByteArray) : Prop :=
  (1 ≤ n ∧ (o (n - 1)).toList = s.toList ∧ n' = n ∧ o' = o) ∨
  ((1 ≤ n → (o (n - 1)).toList ≠ s.toList) ∧ n' = n + 1 ∧ o' = fun j => if j = n then s else o j)

/-- A row of ours comes back; what was written of old is at or beyond 'base'. -/
def RetApp (base : Nat) (w : World) (n : Nat) (o : Nat → ByteArray) (s : ByteArray) (e : Ending) (w' : World) : Prop :=
  ∃ v' n' o' r, e = .returned v' ∧ w'.ownsRow base 9 1 v' n' (strsL o' n') ∧ Step n o s n' o' ∧ w.grownBy w' r ∧ ∀ b, r = some b → base ≤ b

theorem strsL_push (o : Nat → ByteArray) (n : Nat) (s : ByteArray) : strsL o n ++ [.string s] = strsL (fun j => if j = n then s else o j) (n + 1) := by
  rw [strsL_succ, if_pos rfl]
  congr 1
  exact strsL_congr fun j hj => by rw [if_neg (by omega)]

theorem own_base {w : World} {base n : Nat} {v : Value} {xs : List Value} (h : w.ownsRow base 9 1 v n xs) : ∀ b, v.ownBlock = some b → base ≤ b := by
  intro b hb
  rcases h.2 with ⟨rfl, _⟩ | ⟨g, cap, cur, rfl, hg, _⟩
  · cases hb
  · injection hb with hb
    subst hb
    exact hg

theorem grown_alloc_then {w w' : World} {o : Obj} {r : Option Nat} (h : (w.alloc o).grownBy w' r) : w.grownBy w' r := grown_trans (grown_alloc w o r) h

set_option maxHeartbeats 1000000 in
theorem appendPath_any (v : Value) (n base : Nat) (o : Nat → ByteArray) (s : ByteArray) (w : World) (hown : w.ownsRow base 9 1 v n (strsL o n)) (hb : base ≤ w.heap.size) (hn : n ≤ 1048576) :
    Calls Try.prog 19 #[v, .string s] w (RetApp base w n o s) := by
  obtain ⟨i0, hi, hz0, hz1, hz2⟩ := info_parts Try.info9
  rcases hown.2 with ⟨rfl, rfl⟩ | ⟨g, cap, cur, rfl, hg, hgb, hnc, hcm, _⟩
  · go_enter Try.func19, Try.ntmps19
    go_wp2_with (at_builtin; refine wpList_append_own _ rfl _ _ 22 rfl base 9 i0 _ 1 16 Try.underlying22 hi hz0 hz1 hz2 rfl (by omega) (.slice none 0 0) 0 _ rfl (hown.alloc _) ⟨w.heap.size, 0, none⟩ 1 1 [.string s] rfl rfl (cell_one_new _ _ _) (by intro u hu; simp at hu; subst hu; rfl) (by unfold maxLen; omega) (by omega) (by simp; omega) ?_; intro v4 w4 hown4 hgrow4 _)
    rw [strsL_push] at hown4
    go_wp2_with fail
    go_ret
    exact ⟨v4, 1, _, _, rfl, hown4, .inr ⟨fun h => absurd h (by omega), rfl, rfl⟩, grown_alloc_then hgrow4, fun b hb => by cases hb⟩
  · clear hcm
    by_cases h0 : n = 0
    · subst h0
      go_enter Try.func19, Try.ntmps19
      go_wp2_with (at_builtin; refine wpList_append_own _ rfl _ _ 22 rfl base 9 i0 _ 1 16 Try.underlying22 hi hz0 hz1 hz2 rfl (by omega) (.slice (some ⟨g, 0, none⟩) 0 cap) 0 _ rfl (hown.alloc _) ⟨w.heap.size, 0, none⟩ 1 1 [.string s] rfl rfl (cell_one_new _ _ _) (by intro u hu; simp at hu; subst hu; rfl) (by unfold maxLen; omega) (by omega) (by simp; omega) ?_; intro v4 w4 hown4 hgrow4 _)
      rw [strsL_push] at hown4
      go_wp2_with fail
      go_ret
      exact ⟨v4, 1, _, _, rfl, hown4, .inr ⟨fun h => absurd h (by omega), rfl, rfl⟩, grown_alloc_then hgrow4, fun b hb => own_base hown b hb⟩
    · have c1 : w.cell? ⟨g, n - 1, none⟩ = some (.string (o (n - 1))) := by rw [hown.cellAt (n - 1) (by omega), strsL_get o n (n - 1) (by omega)]
      by_cases he : (o (n - 1)).toList = s.toList
      · have HE : Hid _ := he
        have he2 : ((o (n - 1)).toList == s.toList) = true := by rw [he]; exact beq_self_eq_true _
        clear he hgb
        go_enter Try.func19, Try.ntmps19
        go_wp2_with fail
        go_ret
        exact ⟨_, n, o, none, rfl, hown, .inl ⟨by omega, HE.out, rfl, rfl⟩, grown_refl _ _, fun b hb => by cases hb⟩
      · have HE : Hid _ := he
        have he2 : ((o (n - 1)).toList == s.toList) = false := beq_false_of_ne he
        clear he hgb
        go_enter Try.func19, Try.ntmps19
        go_wp2_with (at_builtin; refine wpList_append_own _ rfl _ _ 22 rfl base 9 i0 _ 1 16 Try.underlying22 hi hz0 hz1 hz2 rfl (by omega) (.slice (some ⟨g, 0, none⟩) n cap) n _ rfl (hown.alloc _) ⟨w.heap.size, 0, none⟩ 1 1 [.string s] rfl rfl (cell_one_new _ _ _) (by intro u hu; simp at hu; subst hu; rfl) (by unfold maxLen; omega) (by omega) (by simp; omega) ?_; intro v4 w4 hown4 hgrow4 _)
        rw [strsL_push] at hown4
        go_wp2_with fail
        go_ret
        exact ⟨v4, n + 1, _, _, rfl, hown4, .inr ⟨fun _ => HE.out, rfl, rfl⟩, grown_alloc_then hgrow4, fun b hb => own_base hown b hb⟩

theorem zzAppendPath_any (v : Value) (n base : Nat) (o : Nat → ByteArray) (s : ByteArray) (w : World) (hown : w.ownsRow base 9 1 v n (strsL o n)) (hb : base ≤ w.heap.size) (hn : n ≤ 1048576) :
    Calls Try.prog 10 #[v, .string s] w (RetApp base w n o s) := by
  go_enter Try.func10, Try.ntmps10
  go_wp2_with fail
  refine (appendPath_any v n base o s w hown hb hn).mono ?_
  rintro e w' ⟨v', n', o', r, rfl, h1, h2, h3, h4⟩
  have HS : Hid _ := h2
  clear h2
  go_wp2_with fail
  go_ret
  exact ⟨v', n', o', r, rfl, h1, HS.out, h3, h4⟩

end Go.Proofs.Qxb6003764a.Str
