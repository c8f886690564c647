/-
  MEMORY, for the walks over strings: a block of n strings whose j-th is f j. No Go function in sight.
-/
import Derived.Test.Qxb6003764aRows
import Derived.WalkKit
namespace Go.Proofs.Qxb6003764a.Str
open Go.RowKit

/-- The cells of a row of n words. -/
def rowOf (n : Nat) (f : Nat → ByteArray) : Array Value := ((List.range n).map fun j => Value.string (f j)).toArray

/-- Block b is a row of n words of element type e, the j-th of which is f j; none is frozen. -/
def Blk (w : World) (b : Nat) (e : TypeId) (n : Nat) (f : Nat → ByteArray) : Prop := w.heap[b]? = some (.cells (rowOf n f) e (0, 0))

theorem rowOf_get (n : Nat) (f : Nat → ByteArray) (j : Nat) (h : j < n) : (rowOf n f)[j]? = some (.string (f j)) := by
  simp [rowOf, h]

theorem rowOf_congr {n : Nat} {f g : Nat → ByteArray} (h : ∀ j, j < n → f j = g j) : rowOf n f = rowOf n g := by
  unfold rowOf
  congr 1
  apply List.map_congr_left
  intro a ha
  rw [h a (by simpa using ha)]

theorem rowOf_set (n : Nat) (f : Nat → ByteArray) (j : Nat) (v : ByteArray) : (rowOf n f).setIfInBounds j (.string v) = rowOf n (fun i => if i = j then v else f i) := by
  apply Array.ext_getElem?
  intro i
  by_cases hi : i < n
  · rw [rowOf_get _ _ _ hi, Array.getElem?_setIfInBounds]
    by_cases hij : j = i
    · subst hij
      simp [rowOf, hi]
    · rw [if_neg hij, rowOf_get _ _ _ hi, if_neg (fun h => hij h.symm)]
  · rw [Array.getElem?_eq_none (by simp [rowOf]; omega), Array.getElem?_eq_none (by simp [rowOf]; omega)]

theorem Blk.cell {w : World} {b : Nat} {e : TypeId} {n : Nat} {f : Nat → ByteArray} (h : Blk w b e n f) {j : Nat} (hj : j < n) : w.cell? ⟨b, j, none⟩ = some (.string (f j)) := by
  rw [cell_of_row w b j _ e (0, 0) h, rowOf_get _ _ _ hj]

theorem Blk.free {w : World} {b : Nat} {e : TypeId} {n : Nat} {f : Nat → ByteArray} (h : Blk w b e n f) (j : Nat) : w.frozen? ⟨b, j, none⟩ = false := frozen_of_row w b j _ e h

theorem Blk.lt {w : World} {b : Nat} {e : TypeId} {n : Nat} {f : Nat → ByteArray} (h : Blk w b e n f) : b < w.heap.size := lt_of_block h

theorem Blk.set {w : World} {b : Nat} {e : TypeId} {n : Nat} {f : Nat → ByteArray} (h : Blk w b e n f) (j : Nat) (v : ByteArray) :
    Blk (w.setCell ⟨b, j, none⟩ (.string v)) b e n (fun i => if i = j then v else f i) := by
  unfold Blk
  rw [heap_setCell_same w b j _ e _ h, rowOf_set]

theorem Blk.congr {w : World} {b : Nat} {e : TypeId} {n : Nat} {f g : Nat → ByteArray} (h : Blk w b e n f) (hfg : ∀ j, j < n → f j = g j) : Blk w b e n g := by
  unfold Blk at *
  rw [h, rowOf_congr hfg]

theorem Blk.other {w : World} {b : Nat} {e : TypeId} {n : Nat} {f : Nat → ByteArray} (h : Blk w b e n f) {a : Addr} (ha : b ≠ a.block) (v : Value) : Blk (w.setCell a v) b e n f := by
  unfold Blk
  rw [heap_setCell_other w a b v ha]
  exact h

theorem Blk.drew {w : World} {b : Nat} {e : TypeId} {n : Nat} {f : Nat → ByteArray} (h : Blk w b e n f) : Blk w.drew b e n f := h

/-- What a call may have written: its new blocks, and block 'row' if one is named ('World.grownBy' of the base). -/
theorem Blk.kept {w w' : World} {b : Nat} {e : TypeId} {n : Nat} {f : Nat → ByteArray} {row : Option Nat} (h : Blk w b e n f) (hg : w.grownBy w' row) (hb : row ≠ some b) : Blk w' b e n f := by
  unfold Blk
  rw [hg.block b h.lt (by first | exact hb | exact fun e => hb e.symm)]
  exact h

theorem grown_trans {a b c : World} {row : Option Nat} (h : a.grownBy b row) (k : b.grownBy c row) : a.grownBy c row :=
  ⟨k.os.trans h.os, k.tape.trans h.tape, k.output.trans h.output, Nat.le_trans h.size k.size, fun i hi hn => (k.block i (Nat.lt_of_lt_of_le hi h.size) hn).trans (h.block i hi hn)⟩

/-- A row that did not lie there at the start may be written freely. -/
theorem grown_new {a b : World} {r : Nat} (h : a.grownBy b (some r)) (hr : a.heap.size ≤ r) : a.grownBy b none :=
  ⟨h.os, h.tape, h.output, h.size, fun i hi _ => h.block i hi (fun e => by injection e; omega)⟩

theorem grown_any {a b : World} {row : Option Nat} (h : a.grownBy b none) : a.grownBy b row :=
  ⟨h.os, h.tape, h.output, h.size, fun i hi _ => h.block i hi (fun e => by cases e)⟩

theorem grown_refl (w : World) (row : Option Nat) : w.grownBy w row := World.grownBy.refl w row

theorem grown_drew {a b : World} {row : Option Nat} (h : a.grownBy b row) : a.grownBy b.drew row := ⟨h.os, h.tape, h.output, h.size, h.block⟩

theorem grown_set {a b : World} {r : Nat} (h : a.grownBy b (some r)) (o : Nat) (v : Value) : a.grownBy (b.setCell ⟨r, o, none⟩ v) (some r) :=
  grown_trans h ⟨rfl, rfl, rfl, by simp, fun k _ hk => heap_setCell_other b ⟨r, o, none⟩ k v (fun e => hk (by simp [e]))⟩

theorem grown_below {a b : World} (h : a.grownBy b none) : Below a.heap.size a b :=
  ⟨h.os, h.tape, h.output, h.size, fun i hi => h.block i hi (fun e => by cases e)⟩

/-- 'make([]string, n)': the new block is a row of n empty strings. -/
theorem made_row (n : Nat) : madeCells #[Value.string ByteArray.empty] n = rowOf n (fun _ => ByteArray.empty) := by
  apply Array.ext'
  rw [toList_madeCells_one]
  apply List.ext_getElem?
  intro j
  by_cases hj : j < n <;> simp [rowOf, hj]

theorem blk_alloc (w : World) (e : TypeId) (n : Nat) (f : Nat → ByteArray) : Blk (w.alloc (.cells (rowOf n f) e)) w.heap.size e n f := heap_alloc_new w _

theorem grown_alloc (w : World) (o : Obj) (row : Option Nat) : w.grownBy (w.alloc o) row := World.grownBy_alloc w o row

/-- A slice of n words that can be read: its address is a, its j-th word is f j; if it has a word at all its block fits S. -/
def Rd (S : Nat → Prop) (w : World) (a : Option Addr) (n : Nat) (f : Nat → ByteArray) : Prop :=
  n = 0 ∨ ∃ b o, a = some ⟨b, o, none⟩ ∧ S b ∧ ∀ j, j < n → w.cell? ⟨b, o + j, none⟩ = some (.string (f j))

theorem cell_kept {w wr : World} {b o : Nat} {v : Value} {row : Option Nat} (hg : w.grownBy wr row) (hr : row ≠ some b) (hc : w.cell? ⟨b, o, none⟩ = some v) : wr.cell? ⟨b, o, none⟩ = some v := by
  rw [← hc]
  exact World.cell?_of_block (w := w) (hg.block b (block_lt_of_cell hc) (fun e => hr e.symm))

theorem Rd.kept {S : Nat → Prop} {w w' : World} {a : Option Addr} {n : Nat} {f : Nat → ByteArray} {row : Option Nat} (h : Rd S w a n f) (hg : w.grownBy w' row) (hr : ∀ r, row = some r → ¬ S r) : Rd S w' a n f := by
  rcases h with h | ⟨b, o, ha, hb, hc⟩
  · exact .inl h
  · exact .inr ⟨b, o, ha, hb, fun j hj => cell_kept hg (fun e => hr b e hb) (hc j hj)⟩

theorem Rd.keptNew {S : Nat → Prop} {w w' : World} {a : Option Addr} {n : Nat} {f : Nat → ByteArray} (h : Rd S w a n f) (hg : w.grownBy w' none) : Rd S w' a n f := h.kept hg (fun r e => by cases e)

theorem Rd.mono {S S' : Nat → Prop} {w : World} {a : Option Addr} {n : Nat} {f : Nat → ByteArray} (h : Rd S w a n f) (hS : ∀ b, b < w.heap.size → S b → S' b) : Rd S' w a n f := by
  rcases h with h | ⟨b, o, ha, hb, hc⟩
  · exact .inl h
  · by_cases hn : n = 0
    · exact .inl hn
    · exact .inr ⟨b, o, ha, hS b (block_lt_of_cell (hc 0 (by omega))) hb, hc⟩

theorem Rd.congr {S : Nat → Prop} {w : World} {a : Option Addr} {n : Nat} {f g : Nat → ByteArray} (h : Rd S w a n f) (hfg : ∀ j, j < n → f j = g j) : Rd S w a n g := by
  rcases h with h | ⟨b, o, ha, hb, hc⟩
  · exact .inl h
  · exact .inr ⟨b, o, ha, hb, fun j hj => by rw [← hfg j hj]; exact hc j hj⟩

theorem Blk.rd {w : World} {b : Nat} {e : TypeId} {n : Nat} {f : Nat → ByteArray} (h : Blk w b e n f) {S : Nat → Prop} (hS : S b) : Rd S w (some ⟨b, 0, none⟩) n f :=
  .inr ⟨b, 0, rfl, hS, fun j hj => by rw [Nat.zero_add]; exact h.cell hj⟩

theorem Rd.nil {S : Nat → Prop} {w : World} {a : Option Addr} {n : Nat} {f : Nat → ByteArray} (h : Rd S w a n f) : a = none → n = 0 := by
  rintro rfl
  rcases h with h | ⟨b, o, ha, _⟩
  · exact h
  · cases ha

/-- The first n strings as cells. -/
def strsL (f : Nat → ByteArray) (n : Nat) : List Value := (List.range n).map fun j => Value.string (f j)
theorem strsL_succ (f : Nat → ByteArray) (n : Nat) : strsL f (n + 1) = strsL f n ++ [.string (f n)] := by
  unfold strsL
  rw [List.range_succ, List.map_append]
  rfl
theorem strsL_get (f : Nat → ByteArray) (n j : Nat) (h : j < n) : (strsL f n)[j]? = some (.string (f j)) := by
  unfold strsL
  rw [List.getElem?_map, List.getElem?_range h]
  rfl
theorem strsL_congr {f g : Nat → ByteArray} {n : Nat} (h : ∀ j, j < n → f j = g j) : strsL f n = strsL g n := by
  unfold strsL
  apply List.map_congr_left
  intro a ha
  rw [h a (by simpa using ha)]

end Go.Proofs.Qxb6003764a.Str
