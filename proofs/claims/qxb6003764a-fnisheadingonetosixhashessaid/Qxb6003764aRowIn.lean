/-
  A SLICE OF BYTES THAT CAME IN, as the walks of this seat take it.
-/
import Derived.Test.Qxb6003764aMem
import Derived.OpenShut
namespace Go.Proofs.Qxb6003764a
open Go.RowKit

/-- WHAT THE WALK IS TOLD OF A SLICE OF INTEGERS THAT CAME IN: it is nil; or it leads to a row of 'cap' cells, the numbers 'zs' (the first 'len' are its elements, the rest its spare room), each fitting its kind. -/
def IsRow (k : IntKind) (w : World) (a : Option Addr) (len cap : Nat) (zs : List Int) : Prop :=
  (a = none ∧ len = 0 ∧ cap = 0 ∧ zs = []) ∨
  ∃ x, a = some x ∧ len ≤ cap ∧ cap ≤ maxLen ∧ zs.length = cap ∧ (∀ i, i < zs.length → w.cell? (x.add i) = some (.int k (zs.getD i 0))) ∧ ∀ n ∈ zs, (Lit.int k n).wf = true

theorem isRow_rd {w : World} {a : Option Addr} {len cap : Nat} {zs : List Int} (h : IsRow .u8 w a len cap zs) :
    ∃ f : Nat → Nat, Rd (fun _ => True) w a len f ∧ (∀ j, j < len → f j < 256) ∧ (a = none → len = 0) ∧ len ≤ maxLen := by
  rcases h with ⟨rfl, rfl, rfl, rfl⟩ | ⟨x, rfl, hl, hm, hz, hc, hw⟩
  · exact ⟨fun _ => 0, .inl rfl, fun j hj => absurd hj (by omega), fun _ => rfl, Nat.zero_le _⟩
  · have hbd : ∀ j, j < len → 0 ≤ zs.getD j 0 ∧ zs.getD j 0 < 256 := by
      intro j hj
      have hjz : j < zs.length := by omega
      have h1 := hw (zs.getD j 0) (by rw [List.getD, List.getElem?_eq_getElem hjz]; exact List.getElem_mem hjz)
      have h2 := bounds_u8 h1
      omega
    refine ⟨fun j => (zs.getD j 0).toNat, ?_, fun j hj => ?_, (fun e => by cases e), Nat.le_trans hl hm⟩
    · by_cases h0 : len = 0
      · exact .inl h0
      · have hspot : x.spot = none := by simpa [Addr.add] using World.cell?_spot (hc 0 (by omega))
        obtain ⟨b, o, sp⟩ := x
        simp only at hspot
        subst hspot
        refine .inr ⟨b, o, rfl, trivial, fun j hj => ?_⟩
        have h1 := hc j (by omega)
        rw [Int.toNat_of_nonneg (hbd j hj).1, ← h1, Addr.add_lit]
    · have := hbd j hj
      show (zs.getD j 0).toNat < 256
      omega

end Go.Proofs.Qxb6003764a
