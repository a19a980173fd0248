import Derived.Test.Qxb6617750aRows
import Derived.WalkKit
import Derived.WalkSpells
import Derived.WalkLawsBesides
namespace Go.Proofs.Qxb6617750a
open Go.RowKit

/-- The slice value at 'ao', of length n, reads the numbers xs in the world w. -/
def RowAt (w : World) (ao : Option Addr) (n : Nat) (xs : List Int) : Prop :=
  xs.length = n ∧ (n = 0 ∨ ∃ b off, ao = some ⟨b, off, none⟩ ∧ ∀ i, i < n → w.cell? ⟨b, off + i, none⟩ = some (.int .i64 (xs.getD i 0)))

theorem RowAt.drewN {w : World} {ao : Option Addr} {n : Nat} {xs : List Int} (h : RowAt w ao n xs) (q : Nat) : RowAt (w.drewN q) ao n xs := h

theorem RowAt.below {w w' : World} {ao : Option Addr} {n : Nat} {xs : List Int} (h : RowAt w ao n xs) {B : Nat} (hB : w.heap.size ≤ B) (hb : Below B w w') : RowAt w' ao n xs := by
  refine ⟨h.1, ?_⟩
  rcases h.2 with h0 | ⟨b, off, e, hc⟩
  · exact .inl h0
  · refine .inr ⟨b, off, e, fun i hi => ?_⟩
    have h1 := hc i hi
    rw [hb.cell (p := ⟨b, off + i, none⟩) (Nat.lt_of_lt_of_le (World.block_lt_of_cell? w _ h1) hB)]
    exact h1

theorem below_drewN {B : Nat} {a w : World} (h : Below B a w) (q : Nat) : Below B a (w.drewN q) := ⟨h.os, h.tape, h.output, h.size, h.block⟩

theorem ret_bool {a b : Bool} (h : a = b) : Ending.returned (.bool a) = .returned (.bool b) := by rw [h]

theorem row_of_owns {w : World} {base : Nat} {v : Value} {n : Nat} {xs : List Int} (h : w.ownsRow base 3 1 v n (xs.map (Value.int .i64))) :
    ∃ ao cap, v = .slice ao n cap ∧ n ≤ cap ∧ cap ≤ maxLen ∧ RowAt w ao n xs := by
  have hlen : xs.length = n := by simpa using h.1
  rcases h.2 with ⟨rfl, rfl⟩ | ⟨g, cap, cur, rfl, hb, hg, hnc, hcm, hcs, htake⟩
  · exact ⟨none, 0, rfl, Nat.le_refl _, Nat.zero_le _, hlen, .inl rfl⟩
  · refine ⟨_, cap, rfl, hnc, hcm, hlen, .inr ⟨g, 0, rfl, fun i hi => ?_⟩⟩
    have := h.cellAt i (by omega)
    rw [Nat.zero_add, this]
    simp [List.getD, show i < xs.length by omega]

end Go.Proofs.Qxb6617750a
