import Derived.Test.Qxb6617716aT94
namespace Go.Proofs.Qxb6617716a
open Go.RowKit

/-- The five rows of the walk back. -/
structure Bst (w0 w : World) (n b1 b2 b3 b4 b5 : Nat) (Wp : Nat → Bool) (Wa Wo : Nat → Nat) (s1 s2 : Nat → Bool) : Prop where
  bel : Below w0.heap.size w0 w
  r1 : w.rowIs b1 4 n (fun i => .bool (Wp i))
  r2 : w.rowIs b2 36 n (fun i => .float .f64 (Wa i))
  r3 : w.rowIs b3 36 n (fun i => .float .f64 (Wo i))
  r4 : w.rowIs b4 4 n (fun i => .bool (s1 i))
  r5 : w.rowIs b5 4 n (fun i => .bool (s2 i))
  o0 : w0.heap.size ≤ b1
  o1 : b1 < b2
  o2 : b2 < b3
  o3 : b3 < b4
  o4 : b4 < b5

section
variable {w0 w : World} {n b1 b2 b3 b4 b5 : Nat} {Wp : Nat → Bool} {Wa Wo : Nat → Nat} {s1 s2 : Nat → Bool}

theorem row_set {b t : Nat} {β : Type} {f : Nat → β} {v : β → Value} (h : w.rowIs b t n (fun i => v (f i))) (u : Nat) (x : β) : (w.setCell ⟨b, u, none⟩ (v x)).rowIs b t n (fun i => v (if i = u then x else f i)) :=
  (h.set u _).congr fun i _ => by
    by_cases e : i = u
    · simp [e]
    · simp [e]

theorem Bst.hit1 (h : Bst w0 w n b1 b2 b3 b4 b5 Wp Wa Wo s1 s2) (u : Nat) (x : Bool) : Bst w0 ((w.setCell ⟨b4, u, none⟩ (.bool true)).setCell ⟨b1, u, none⟩ (.bool x)) n b1 b2 b3 b4 b5 (fun i => if i = u then x else Wp i) Wa Wo (fun i => if i = u then true else s1 i) s2 := by
  have h0 := h.o0; have h1 := h.o1; have h2 := h.o2; have h3 := h.o3; have h4 := h.o4
  refine ⟨(h.bel.setCell (show w0.heap.size ≤ b4 by omega) _).setCell (show w0.heap.size ≤ b1 by omega) _, ?_, ?_, ?_, ?_, ?_, h0, h1, h2, h3, h4⟩
  · exact row_set (v := Value.bool) (h.r1.setOther (show b1 ≠ b4 by omega) _) u x
  · exact (h.r2.setOther (show b2 ≠ b4 by omega) _).setOther (show b2 ≠ b1 by omega) _
  · exact (h.r3.setOther (show b3 ≠ b4 by omega) _).setOther (show b3 ≠ b1 by omega) _
  · exact (row_set (v := Value.bool) h.r4 u true).setOther (show b4 ≠ b1 by omega) _
  · exact (h.r5.setOther (show b5 ≠ b4 by omega) _).setOther (show b5 ≠ b1 by omega) _

theorem Bst.hit2 (h : Bst w0 w n b1 b2 b3 b4 b5 Wp Wa Wo s1 s2) (u : Nat) (x y : Nat) : Bst w0 (((w.setCell ⟨b5, u, none⟩ (.bool true)).setCell ⟨b2, u, none⟩ (.float .f64 x)).setCell ⟨b3, u, none⟩ (.float .f64 y)) n b1 b2 b3 b4 b5 Wp (fun i => if i = u then x else Wa i) (fun i => if i = u then y else Wo i) s1 (fun i => if i = u then true else s2 i) := by
  have h0 := h.o0; have h1 := h.o1; have h2 := h.o2; have h3 := h.o3; have h4 := h.o4
  refine ⟨((h.bel.setCell (show w0.heap.size ≤ b5 by omega) _).setCell (show w0.heap.size ≤ b2 by omega) _).setCell (show w0.heap.size ≤ b3 by omega) _, ?_, ?_, ?_, ?_, ?_, h0, h1, h2, h3, h4⟩
  · exact ((h.r1.setOther (show b1 ≠ b5 by omega) _).setOther (show b1 ≠ b2 by omega) _).setOther (show b1 ≠ b3 by omega) _
  · exact (row_set (v := Value.float .f64) (h.r2.setOther (show b2 ≠ b5 by omega) _) u x).setOther (show b2 ≠ b3 by omega) _
  · exact row_set (v := Value.float .f64) ((h.r3.setOther (show b3 ≠ b5 by omega) _).setOther (show b3 ≠ b2 by omega) _) u y
  · exact ((h.r4.setOther (show b4 ≠ b5 by omega) _).setOther (show b4 ≠ b2 by omega) _).setOther (show b4 ≠ b3 by omega) _
  · exact ((row_set (v := Value.bool) h.r5 u true).setOther (show b5 ≠ b2 by omega) _).setOther (show b5 ≠ b3 by omega) _
end

theorem reads_row {w : World} {b t n : Nat} {f : Nat → Value} (h : w.rowIs b t n f) : Reads w (some ⟨b, 0, none⟩) n f := .inr ⟨b, 0, rfl, fun i hi => by rw [Nat.zero_add]; exact h.cell hi⟩

end Go.Proofs.Qxb6617716a
