import Derived.Test.Qxb6617750aBytes
import Derived.Test.Qxb6617750aOwn2
namespace Go.Proofs.Qxb6617750a
open Go.RowKit

def frameCells (sv cv : Value) : Array Value := #[.slice none 0 0, .slice none 0 0, .bool false, sv, .pointer none, .int .i64 0, .slice none 0 0, cv, .pointer none, .int .i64 0, .slice none 0 0, .map none, .map none]

set_option maxHeartbeats 400000 in
theorem newFrame_any (ao bo : Option Addr) (n ca m cb : Nat) (w : World) :
    Calls Try.prog 5 #[.slice ao n ca, .slice bo m cb] w fun e w' => e = .returned (.pointer (some ⟨w.heap.size, 0, none⟩)) ∧ w' = w.alloc (.cells (frameCells (.slice ao n ca) (.slice bo m cb)) 35) := by
  go_enter Try.func5, Try.ntmps5
  go_wp2
  go_ret
  exact ⟨rfl, rfl⟩

structure FrameIs (w : World) (B fb : Nat) (sv cv : Value) (S C : List Int) : Prop where
  block : w.heap[fb]? = some (.cells (frameCells sv cv) 35 (0, 0))
  subs : w.ownsRow B 3 1 sv S.length (S.map (Value.int .i64))
  chg : w.ownsRow B 3 1 cv C.length (C.map (Value.int .i64))
  apart : sv.ownBlock = none ∨ sv.ownBlock ≠ cv.ownBlock
  ge : B ≤ fb

theorem FrameIs.cell3 {w : World} {B fb : Nat} {sv cv : Value} {S C : List Int} (h : FrameIs w B fb sv cv S C) : w.cell? ⟨fb, 3, none⟩ = some sv := by
  rw [cell_of_row w fb 3 _ 35 (0, 0) h.block]; rfl
theorem FrameIs.cell7 {w : World} {B fb : Nat} {sv cv : Value} {S C : List Int} (h : FrameIs w B fb sv cv S C) : w.cell? ⟨fb, 7, none⟩ = some cv := by
  rw [cell_of_row w fb 7 _ 35 (0, 0) h.block]; rfl
theorem FrameIs.free {w : World} {B fb : Nat} {sv cv : Value} {S C : List Int} (h : FrameIs w B fb sv cv S C) (j : Nat) : w.frozen? ⟨fb, j, none⟩ = false := frozen_of_row w fb j _ 35 h.block

theorem own_ne_frame {w : World} {B fb : Nat} {v : Value} {n : Nat} {xs : List Value} {cs : Array Value} (h : w.ownsRow B 3 1 v n xs) (hb : w.heap[fb]? = some (.cells cs 35 (0, 0))) : v.ownBlock ≠ some fb := by
  intro hk
  rcases h.2 with ⟨rfl, _⟩ | ⟨g, cap, cur, rfl, _, hg, _⟩
  · simp [Value.ownBlock] at hk
  · simp only [Value.ownBlock, Option.some.injEq] at hk
    subst hk
    rw [hg] at hb
    simp at hb

theorem FrameIs.drewN {w : World} {B fb : Nat} {sv cv : Value} {S C : List Int} (h : FrameIs w B fb sv cv S C) (q : Nat) : FrameIs (w.drewN q) B fb sv cv S C := ⟨h.block, h.subs, h.chg, h.apart, h.ge⟩

theorem FrameIs.setSubs {w : World} {B fb : Nat} {sv cv nv : Value} {S C S' : List Int} (h : FrameIs w B fb sv cv S C) (hN : w.ownsRow B 3 1 nv S'.length (S'.map (Value.int .i64))) (hap : nv.ownBlock = none ∨ nv.ownBlock ≠ cv.ownBlock) :
    FrameIs (w.setCell ⟨fb, 3, none⟩ nv) B fb nv cv S' C where
  block := by rw [heap_setCell_same w fb 3 _ 35 nv h.block]; rfl
  subs := ownsRow_setCell_other hN (own_ne_frame hN h.block) _
  chg := ownsRow_setCell_other h.chg (own_ne_frame h.chg h.block) _
  apart := hap
  ge := h.ge

/-- A frame stays one while other blocks grow. -/
theorem FrameIs.grown {w w' : World} {B fb : Nat} {sv cv cv' : Value} {S C C' : List Int} (h : FrameIs w B fb sv cv S C) (hg : w.grownBy w' cv.ownBlock) (hc : w'.ownsRow B 3 1 cv' C'.length (C'.map (Value.int .i64)))
    (hk : ∀ k, cv'.ownBlock = some k → cv.ownBlock = some k ∨ w.heap.size ≤ k) :
    w'.heap[fb]? = some (.cells (frameCells sv cv) 35 (0, 0)) ∧ FrameIs (w'.setCell ⟨fb, 7, none⟩ cv') B fb sv cv' S C' := by
  have hb : w'.heap[fb]? = some (.cells (frameCells sv cv) 35 (0, 0)) := by
    rw [hg.block fb (lt_of_block h.block) (fun e => own_ne_frame h.chg h.block e.symm)]; exact h.block
  have hs : w'.ownsRow B 3 1 sv S.length (S.map (Value.int .i64)) := h.subs.kept hg h.apart
  refine ⟨hb, ⟨by rw [heap_setCell_same w' fb 7 _ 35 cv' hb]; rfl, ownsRow_setCell_other hs (own_ne_frame hs hb) _, ownsRow_setCell_other hc (own_ne_frame hc hb) _, ?_, h.ge⟩⟩
  cases e : sv.ownBlock with
  | none => exact .inl rfl
  | some k =>
    right
    intro hkk
    have h2 := h.subs.lt k e
    rcases hk k hkk.symm with h3 | h3
    · rcases h.apart with h4 | h4
      · rw [e] at h4; cases h4
      · exact h4 (e.trans h3.symm)
    · omega

theorem FrameIs.alloc {w : World} {B fb : Nat} {sv cv : Value} {S C : List Int} (h : FrameIs w B fb sv cv S C) (o : Obj) : FrameIs (w.alloc o) B fb sv cv S C where
  block := by rw [Below.heap_alloc w o fb (lt_of_block h.block)]; exact h.block
  subs := h.subs.alloc o
  chg := h.chg.alloc o
  apart := h.apart
  ge := h.ge

/-- What a step of the script leaves. -/
def Stepped (B fb : Nat) (S' C' : List Int) (w w' : World) : Prop := (∃ sv' cv', FrameIs w' B fb sv' cv' S' C') ∧ Below B w w'

theorem one_new {w : World} (W : World) (x : Value) (t : TypeId) (h : W.heap.size = w.heap.size) : ∀ (j : Nat) (u : Value), [x][j]? = some u → (W.alloc (.cells #[x] t)).cell? ((⟨w.heap.size, 0, none⟩ : Addr).add j) = some u := by
  intro j u hj
  match j, hj with
  | 0, hj =>
    simp only [List.getElem?_cons_zero, Option.some.injEq] at hj
    subst hj
    show (W.alloc (.cells #[x] t)).cell? ⟨w.heap.size, 0, none⟩ = _
    rw [← h]
    exact cell_of_one (Go.heap_alloc_new W _)

set_option maxHeartbeats 400000 in
theorem setSubs_any (fb B : Nat) (sv cv : Value) (S C S' : List Int) (no : Option Addr) (nn nc : Nat) (w : World) (hF : FrameIs w B fb sv cv S C)
    (hN : w.ownsRow B 3 1 (.slice no nn nc) S'.length (S'.map (Value.int .i64))) (hap : (Value.slice no nn nc).ownBlock = none ∨ (Value.slice no nn nc).ownBlock ≠ cv.ownBlock)
    (hS : S.length ≤ 1099511627776) (hS' : S'.length ≤ 1099511627776) (hC : C.length ≤ 1099511627776) :
    Calls Try.prog 11 #[.pointer (some ⟨fb, 0, none⟩), .slice no nn nc] w fun e w' => e = .returned (.tuple #[]) ∧ Stepped B fb S' (if S = S' then C else C ++ [-2]) w w' := by
  obtain ⟨so, sc, hsv, _, _, hsr⟩ := row_of_owns hF.subs
  obtain ⟨no', nc', hnv, _, _, hnr⟩ := row_of_owns hN
  obtain ⟨co, cc, hcv, _, _, hcr⟩ := row_of_owns hF.chg
  subst hsv hcv
  simp only [Value.slice.injEq] at hnv
  obtain ⟨rfl, rfl, rfl⟩ := hnv
  have h3 := hF.cell3
  have h7 := hF.cell7
  have f3 := hF.free 3
  have f7 := hF.free 7
  have hB : B ≤ w.heap.size := Nat.le_trans hF.ge (Nat.le_of_lt (lt_of_block hF.block))
  obtain ⟨i0, hi, hz0, hz1, hz2⟩ := info_parts Try.info3
  go_enter Try.func11, Try.ntmps11
  go_wp2_with fail
  refine (equal_any _ _ _ _ _ _ S S' _ hsr hnr hS hS').mono ?_
  rintro e w1 ⟨rfl, q, rfl⟩
  by_cases hSS : S = S'
  · have hd : decide (S = S') = true := by simp [hSS]
    have HS : Hid (S = S') := hSS
    clear hSS
    go_wp2_with fail
    go_end0
    have e := HS.out
    subst e
    exact ⟨rfl, ⟨_, _, hF.drewN q⟩, below_drewN (Below.refl _ _) q⟩
  · have hd : decide (S = S') = false := by simp [hSS]
    have HS : Hid (¬ S = S') := hSS
    clear hSS
    have F2 := ((hF.drewN q).setSubs hN hap).alloc (.cells #[.int .i64 (-2)] 3)
    have O2 := F2.chg
    go_wp2_with (at_builtin; refine wpList_append_own2 _ rfl _ _ 22 rfl B 3 i0 (.int .i64 0) 1 8 Try.underlying22 hi hz0 hz1 hz2 rfl (by decide) _ C.length (C.map (Value.int .i64)) rfl O2 ⟨w.heap.size, 0, none⟩ 1 1 [.int .i64 (-2)] rfl rfl ?c1 ?c2 ?c3 ?c4 ?c5 ?_)
    case c1 => exact one_new _ _ _ (by simp)
    case c2 => intro u hu; simp at hu; subst hu; rfl
    case c3 => unfold maxLen; omega
    case c4 => omega
    case c5 => simp; omega
    · intro v' w1 hown' hgrow hk
      have hown2 : w1.ownsRow B 3 1 v' (C ++ [-2]).length ((C ++ [-2]).map (Value.int .i64)) := by simpa using hown'
      obtain ⟨hb, F3⟩ := F2.grown hgrow hown2 (fun k h => by rcases hk k h with h' | h'; exact .inl h'; exact .inr (by simpa using h'))
      obtain ⟨vo, vc, hv, _, _, _⟩ := row_of_owns hown2
      have g7 : w1.cell? ⟨fb, 7, none⟩ = some (.slice co C.length cc) := by rw [cell_of_row w1 fb 7 _ 35 (0, 0) hb]; rfl
      have q7 : w1.frozen? ⟨fb, 7, none⟩ = false := frozen_of_row w1 fb 7 _ 35 hb
      subst hv
      clear h3 h7 f3 f7 hown' hown2 hb
      go_wp2_with fail
      go_end0
      refine ⟨rfl, ⟨_, _, by simpa using F3⟩, ?_⟩
      refine Below.setCell ?_ hF.ge _
      refine Below.grown ?_ hgrow (by simp; omega) (fun k h => (hF.chg.lt k h).1)
      refine Below.alloc ?_ (by simp; omega) _
      exact Below.setCell (below_drewN (Below.refl _ _) q) hF.ge _

end Go.Proofs.Qxb6617750a
