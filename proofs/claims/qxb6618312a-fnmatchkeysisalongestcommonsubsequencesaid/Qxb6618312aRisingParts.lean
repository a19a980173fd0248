import Derived.Test.Qxb6618312aSearch
import Derived.Test.Qxb6618312aPlain
import Derived.Test.Qxb6618312aOwn2
import Derived.Deep.OwnRows
namespace Go.Proofs.Qxb6618312a
open Go.RowKit

theorem one_new {w : World} (W : World) (x : Value) (t : TypeId) (h : W.heap.size = w.heap.size) : ∀ (j : Nat) (u : Value), [x][j]? = some u → (W.alloc (.cells #[x] t)).cell? ((⟨w.heap.size, 0, none⟩ : Addr).add j) = some u := by
  intro j u hj
  match j, hj with
  | 0, hj =>
    simp only [List.getElem?_cons_zero, Option.some.injEq] at hj
    subst hj
    show (W.alloc (.cells #[x] t)).cell? ⟨w.heap.size, 0, none⟩ = _
    rw [← h]
    exact cell_of_one (Go.heap_alloc_new W _)

abbrev nv (x : Nat) : Value := .int .i64 (x : Int)

theorem nrow_of_owns {w : World} {base : Nat} {v : Value} {es : List Nat} (h : w.ownsRow base 3 1 v es.length (es.map nv)) :
    ∃ ao cap, v = .slice ao es.length cap ∧ es.length ≤ cap ∧ NRow w ao es.length es ∧ (0 < es.length → ∃ g, base ≤ g ∧ ao = some ⟨g, 0, none⟩ ∧ (∀ i, i < es.length → w.cell? ⟨g, i, none⟩ = some (nv (es.getD i 0))) ∧ ∀ i, w.frozen? ⟨g, i, none⟩ = false) := by
  rcases h.2 with ⟨rfl, h0⟩ | ⟨g, cap, cur, rfl, hb, hg, hnc, hcm, hcs, htake⟩
  · rw [h0]
    exact ⟨none, 0, rfl, Nat.le_refl _, ⟨h0, .inl rfl⟩, fun h => by omega⟩
  · have hc : ∀ (i x : Nat), es[i]? = some x → w.cell? ⟨g, i, none⟩ = some (nv x) := by
      intro i x hx
      have hi := (List.getElem?_eq_some_iff.1 hx).1
      rw [h.cellAt i (by omega)]
      simp [hx]
    refine ⟨_, cap, rfl, hnc, ⟨rfl, .inr ⟨g, 0, rfl, fun i x hx => by rw [Nat.zero_add]; exact hc i x hx⟩⟩, fun _ => ⟨g, hb, rfl, fun i hi => ?_, fun i => h.frozenAt i⟩⟩
    have := hc i es[i] (List.getElem?_eq_getElem hi)
    rw [this]
    simp [List.getD, hi]

/-- THE STATE OF longestRising's FIRST LOOP: block B: the boxed slice of matches; block B + 1: 'before'; from B + 2 on: 'ends'. -/
structure LSt (w wr : World) (B : Nat) (mv : Value) (mn k : Nat) (v : Value) (es : List Nat) (bf : Nat → Int) : Prop where
  box : wr.heap[B]? = some (.cells #[mv] 35 (0, 0))
  ends : wr.ownsRow (B + 2) 3 1 v es.length (es.map nv)
  bef : wr.rowIs (B + 1) 3 mn (fun x => .int .i64 (if x < k then bf x else 0))
  below : Below B w wr
  size : B + 2 ≤ wr.heap.size

section
variable {w wr : World} {B : Nat} {mv : Value} {mn k : Nat} {v : Value} {es : List Nat} {bf : Nat → Int}

theorem LSt.alloc (h : LSt w wr B mv mn k v es bf) (o : Obj) : LSt w (wr.alloc o) B mv mn k v es bf where
  box := by rw [Below.heap_alloc wr o B (by have := h.size; omega)]; exact h.box
  ends := h.ends.alloc o
  bef := h.bef.alloc o
  below := h.below.alloc (by have := h.size; omega) o
  size := by have := h.size; simp; omega

theorem LSt.drewN (h : LSt w wr B mv mn k v es bf) (q : Nat) : LSt w (wr.drewN q) B mv mn k v es bf := ⟨h.box, h.ends, h.bef, below_drewN h.below q, h.size⟩

theorem LSt.before (h : LSt w wr B mv mn k v es bf) (b : Int) : LSt w (wr.setCell ⟨B + 1, k, none⟩ (.int .i64 b)) B mv mn (k + 1) v es (fun x => if x = k then b else bf x) where
  box := by rw [Below.heap_setCell wr ⟨B + 1, k, none⟩ _ B (by simp)]; exact h.box
  ends := ownsRow_setCell_other h.ends (fun e => by have := (h.ends.lt _ e).1; simp at this) _
  bef := by
    refine (h.bef.set k _).congr fun i hi => ?_
    by_cases e : i = k
    · subst e; simp
    · simp only [if_neg e]
      by_cases h1 : i < k
      · rw [if_pos h1, if_pos (by omega)]
      · rw [if_neg h1, if_neg (by omega)]
  below := h.below.setCell (by simp) _
  size := by have := h.size; simpa using this

/-- The same cell of 'before' written a second time. -/
theorem LSt.before2 (h : LSt w wr B mv mn (k + 1) v es (fun x => if x = k then -1 else bf x)) (b : Int) : LSt w (wr.setCell ⟨B + 1, k, none⟩ (.int .i64 b)) B mv mn (k + 1) v es (fun x => if x = k then b else bf x) where
  box := by rw [Below.heap_setCell wr ⟨B + 1, k, none⟩ _ B (by simp)]; exact h.box
  ends := ownsRow_setCell_other h.ends (fun e => by have := (h.ends.lt _ e).1; simp at this) _
  bef := by
    refine (h.bef.set k _).congr fun i hi => ?_
    by_cases e : i = k
    · subst e; simp
    · simp only [if_neg e]
  below := h.below.setCell (by simp) _
  size := by have := h.size; simpa using this

theorem LSt.put {g c : Nat} (h : LSt w wr B mv mn k (.slice (some ⟨g, 0, none⟩) es.length c) es bf) (n x : Nat) (hn : n < es.length) :
    LSt w (wr.setCell ⟨g, n, none⟩ (nv x)) B mv mn k (.slice (some ⟨g, 0, none⟩) es.length c) (Plain.put es n x) bf := by
  have hg := (h.ends.lt g rfl).1
  have e : Plain.put es n x = es.set n x := by unfold Plain.put; rw [if_neg (by omega)]
  rw [e]
  refine ⟨?_, ?_, ?_, ?_, ?_⟩
  · rw [Below.heap_setCell wr ⟨g, n, none⟩ _ B (by show B ≠ g; omega)]; exact h.box
  · have := (h.ends.stored n (nv x)).1
    simpa [List.map_set] using this
  · exact h.bef.setOther (by show B + 1 ≠ g; omega) _
  · exact h.below.setCell (by show B ≤ g; omega) _
  · have := h.size; simpa using this

theorem LSt.push {w' : World} {v' : Value} {x : Nat} (h : LSt w wr B mv mn k v es bf) (ho : w'.ownsRow (B + 2) 3 1 v' (es.length + 1) (es.map nv ++ [nv x])) (hg : wr.grownBy w' v.ownBlock) :
    LSt w w' B mv mn k v' (Plain.put es es.length x) bf := by
  have e : Plain.put es es.length x = es ++ [x] := by unfold Plain.put; rw [if_pos rfl]
  rw [e]
  have hne : ∀ b, b < B + 2 → some b ≠ v.ownBlock := fun b hb e => by have := (h.ends.lt b e.symm).1; omega
  have hs := h.size
  refine ⟨?_, by simpa using ho, ?_, ?_, Nat.le_trans hs hg.size⟩
  · rw [hg.block B (by omega) (hne B (by omega))]; exact h.box
  · exact h.bef.of_block (hg.block (B + 1) (by omega) (hne _ (by omega)))
  · exact h.below.grown hg (by omega) (fun k hk => by have := (h.ends.lt k hk).1; omega)
end

end Go.Proofs.Qxb6618312a
