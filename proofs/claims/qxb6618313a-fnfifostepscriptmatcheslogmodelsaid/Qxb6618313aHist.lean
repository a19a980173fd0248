import Derived.Test.Qxb6618313aStep
import Derived.Test.Qxb6618313aOwn2
namespace Go.Proofs.Qxb6618313a
open Go.RowKit

/-- The log: a slice of the call's own, of L numbers H, at block g. -/
structure Hist (w : World) (B : Nat) (g L cap : Nat) (H : Nat → Int) : Prop where
  own : w.ownsRow B 3 1 (.slice (some ⟨g, 0, none⟩) L cap) L (olds H L)

section
variable {w w' : World} {B g L cap : Nat} {H : Nat → Int}

theorem Hist.bounds (h : Hist w B g L cap H) : L ≤ cap ∧ cap ≤ maxLen ∧ B ≤ g ∧ g < w.heap.size := by
  rcases h.own.2 with ⟨e, _⟩ | ⟨g', cap', cur, e, hB, hg, h1, h2, _⟩
  · cases e
  · simp only [Value.slice.injEq, Option.some.injEq, Addr.mk.injEq, and_true, true_and] at e
    obtain ⟨rfl, rfl⟩ := e
    obtain ⟨hlt, _⟩ := Array.getElem?_eq_some_iff.1 hg
    exact ⟨h1, h2, hB, hlt⟩

theorem Hist.cell (h : Hist w B g L cap H) {i : Nat} (hi : i < L) : w.cell? ⟨g, i, none⟩ = some (.int .i64 (H i)) := by
  rw [h.own.cellAt i (by omega)]
  simp [olds, hi]

theorem Hist.below (h : Hist w B g L cap H) (hb : Below w.heap.size w w') : Hist w' B g L cap H := by
  have hg := h.bounds.2.2.2
  refine ⟨h.own.1, ?_⟩
  rcases h.own.2 with ⟨e, _⟩ | ⟨g', cap', cur, e, hB, hg', r⟩
  · cases e
  · simp only [Value.slice.injEq, Option.some.injEq, Addr.mk.injEq, and_true, true_and] at e
    obtain ⟨rfl, rfl⟩ := e
    exact .inr ⟨g, cap, cur, rfl, hB, (hb.block g hg).trans hg', r⟩

/-- The log from the head on. -/
theorem Hist.tail {h r : Nat} (hh : Hist w B g (h + r) cap H) : Reads w (if cap = h then some ⟨g, 0, none⟩ else some ⟨g, h, none⟩) r (fun i => .int .i64 (H (h + i))) := by
  by_cases h0 : r = 0
  · exact .inl h0
  · have := hh.bounds.1
    rw [if_neg (by omega)]
    exact .inr ⟨g, h, rfl, fun i hi => hh.cell (by omega)⟩

theorem olds_snoc (H : Nat → Int) (L : Nat) (v : Int) : olds H L ++ [.int .i64 v] = olds (fun i => if i < L then H i else v) (L + 1) := by
  unfold olds
  rw [List.range_succ, List.map_append]
  congr 1
  · apply List.map_congr_left
    intro i hi
    rw [List.mem_range] at hi
    simp [hi]
  · simp

theorem Hist.of_owns {v : Value} {x : Int} (h : w.ownsRow B 3 1 v (L + 1) (olds H L ++ [.int .i64 x])) : ∃ g cap, v = .slice (some ⟨g, 0, none⟩) (L + 1) cap ∧ Hist w B g (L + 1) cap (fun i => if i < L then H i else x) := by
  rw [olds_snoc] at h
  rcases h.2 with ⟨_, h0⟩ | ⟨g, cap, cur, rfl, _⟩
  · omega
  · exact ⟨g, cap, rfl, ⟨h⟩⟩
end

theorem makeCap (n D : Nat) (hn : n ≤ 1048576) (hD : D ≤ 1048576) (w : World) :
    (Instr.makeSlice 22 (.int .i64 0) (.int .i64 ((n : Int) + (D : Int)))).run Try.prog w = .ok (.slice (some ⟨w.heap.size, 0, none⟩) 0 (n + D)) (w.alloc (.cells (madeCells #[.int .i64 0] (n + D)) 3)) := by
  obtain ⟨i, hi, hz, hs, hb⟩ := info_parts Try.info3
  have hr := run_make (P := Try.prog) w 22 3 i _ Try.underlying22 hi hz .i64 .i64 0 ((n : Int) + (D : Int)) (by omega) (by omega) (by rw [hb]; omega) (by omega)
  have e : ((n : Int) + (D : Int)).toNat = n + D := by omega
  simp only [e, hs, Int.toNat_zero, Nat.mul_one] at hr
  exact hr

theorem hist_new (w : World) (N : Nat) (hN : N ≤ maxLen) (H : Nat → Int) : Hist (w.alloc (.cells (madeCells #[.int .i64 0] N) 3)) w.heap.size w.heap.size 0 N H := by
  refine ⟨by simp [olds], .inr ⟨w.heap.size, N, _, rfl, Nat.le_refl _, Go.heap_alloc_new w _, Nat.zero_le _, hN, by simp [size_madeCells], by simp [olds]⟩⟩

end Go.Proofs.Qxb6618313a
