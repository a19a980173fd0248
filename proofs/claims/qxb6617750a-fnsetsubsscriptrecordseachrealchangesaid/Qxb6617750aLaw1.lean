import Derived.Test.Qxb6617750aFrame
namespace Go.Proofs.Qxb6617750a
open Go.RowKit

/-- The log behind a step. -/
def pushed (S S' C : List Int) : List Int := if S = S' then C else C ++ [-2]

set_option maxHeartbeats 400000 in
theorem zzSetSubs_any (fb B : Nat) (sv cv : Value) (S C S' : List Int) (no : Option Addr) (nn nc : Nat) (w : World) (hF : FrameIs w B fb sv cv S C)
    (hN : w.ownsRow B 3 1 (.slice no nn nc) S'.length (S'.map (Value.int .i64))) (hap : (Value.slice no nn nc).ownBlock = none ∨ (Value.slice no nn nc).ownBlock ≠ cv.ownBlock)
    (hS : S.length ≤ 1099511627776) (hS' : S'.length ≤ 1099511627776) (hC : C.length ≤ 1099511627776) :
    Calls Try.prog 7 #[.pointer (some ⟨fb, 0, none⟩), .slice no nn nc] w fun e w' => e = .returned (.tuple #[]) ∧ Stepped B fb S' (pushed S S' C) w w' := by
  go_enter Try.func7, Try.ntmps7
  go_wp2_with fail
  refine (setSubs_any fb B sv cv S C S' no nn nc _ hF hN hap hS hS' hC).mono ?_
  rintro e w1 ⟨rfl, h⟩
  have H : Hid (Stepped B fb S' (pushed S S' C) w w1) := h
  clear h
  go_wp2_with fail
  go_end0
  exact ⟨rfl, H.out⟩

set_option maxHeartbeats 400000 in
theorem zzSubs_any (fb : Nat) (so : Option Addr) (n c : Nat) (w : World) (h : w.cell? ⟨fb, 3, none⟩ = some (.slice so n c)) :
    Calls Try.prog 9 #[.pointer (some ⟨fb, 0, none⟩)] w fun e w' => e = .returned (.slice so n c) ∧ w' = w := by
  go_enter Try.func9, Try.ntmps9
  go_wp2
  go_ret
  exact ⟨rfl, rfl⟩

set_option maxHeartbeats 400000 in
theorem zzChanged_any (fb : Nat) (so : Option Addr) (n c : Nat) (w : World) (h : w.cell? ⟨fb, 7, none⟩ = some (.slice so n c)) :
    Calls Try.prog 10 #[.pointer (some ⟨fb, 0, none⟩)] w fun e w' => e = .returned (.slice so n c) ∧ w' = w := by
  go_enter Try.func10, Try.ntmps10
  go_wp2
  go_ret
  exact ⟨rfl, rfl⟩

theorem owns_below {w w' : World} {base : Nat} {e : TypeId} {size : Nat} {v : Value} {n : Nat} {xs : List Value} (h : w.ownsRow base e size v n xs) (hb : Below w.heap.size w w') : w'.ownsRow base e size v n xs := by
  refine ⟨h.1, ?_⟩
  rcases h.2 with h2 | ⟨g, cap, cur, hv, hg, hh, r⟩
  · exact .inl h2
  · exact .inr ⟨g, cap, cur, hv, hg, by rw [hb.block g (lt_of_block hh)]; exact hh, r⟩

/-- The frame as it is made. -/
theorem frame_made {w w1 w2 : World} {v1 v2 : Value} {X D : List Int} {n m : Nat} (hX : X.length = n) (hD : D.length = m) (ho1 : w1.ownsRow w.heap.size 3 1 v1 n (X.map (Value.int .i64))) (hb1 : Below w.heap.size w w1)
    (ho2 : w2.ownsRow w1.heap.size 3 1 v2 m (D.map (Value.int .i64))) (hb2 : Below w1.heap.size w1 w2) :
    FrameIs (w2.alloc (.cells (frameCells v1 v2) 35)) w.heap.size w2.heap.size v1 v2 X D ∧ Below w.heap.size w (w2.alloc (.cells (frameCells v1 v2) 35)) := by
  subst hX hD
  have s1 := hb1.size
  have s2 := hb2.size
  refine ⟨⟨Go.heap_alloc_new _ _, (owns_below ho1 hb2).alloc _, (owns_weaken ho2 s1).alloc _, ?_, by omega⟩, (hb1.trans (hb2.mono s1)).alloc (by omega) _⟩
  cases e : v1.ownBlock with
  | none => exact .inl rfl
  | some k =>
    right
    intro hk
    have h1 := ho1.lt k e
    have h2 := ho2.lt k hk.symm
    omega

/-- A step of the script: the clone is made, then the frame. -/
theorem frame_below {w w' : World} {B fb : Nat} {sv cv : Value} {S C : List Int} (h : FrameIs w B fb sv cv S C) (hb : Below w.heap.size w w') : FrameIs w' B fb sv cv S C :=
  ⟨by rw [hb.block fb (lt_of_block h.block)]; exact h.block, owns_below h.subs hb, owns_below h.chg hb, h.apart, h.ge⟩

theorem apart_new {w w' : World} {B fb : Nat} {sv cv nv : Value} {S C : List Int} {n : Nat} {xs : List Value} (h : FrameIs w B fb sv cv S C) (ho : w'.ownsRow w.heap.size 3 1 nv n xs) : nv.ownBlock = none ∨ nv.ownBlock ≠ cv.ownBlock := by
  cases e : nv.ownBlock with
  | none => exact .inl rfl
  | some k =>
    right
    intro hk
    have h1 := h.chg.lt k hk.symm
    have h2 := ho.lt k e
    omega

/-! ### The plain law -/

/-- The list after i steps of the script. -/
def pAt (X : List Int) (R : Nat → List Int) : Nat → List Int
  | 0 => X
  | i + 1 => R i

theorem pAt_le (X : List Int) (R : Nat → List Int) (i : Nat) {b : Nat} (hX : X.length ≤ b) (hR : ∀ j, j < i → (R j).length ≤ b) : (pAt X R i).length ≤ b := by
  cases i with
  | zero => exact hX
  | succ i => exact hR i (by omega)

theorem pAt_pos (X : List Int) (R : Nat → List Int) (i : Nat) (h : 0 < i) : pAt X R i = R (i - 1) := by
  cases i with
  | zero => omega
  | succ i => rfl

/-- The number of real changes among the first i steps. -/
def cnt (X : List Int) (R : Nat → List Int) : Nat → Nat
  | 0 => 0
  | i + 1 => cnt X R i + (if pAt X R i = R i then 0 else 1)

theorem cnt_le (X : List Int) (R : Nat → List Int) (i : Nat) : cnt X R i ≤ i := by
  induction i with
  | zero => simp [cnt]
  | succ i ih => simp only [cnt]; split <;> omega

theorem cnt_eq {X : List Int} {R : Nat → List Int} {i : Nat} (h : pAt X R i = R i) : cnt X R (i + 1) = cnt X R i := by simp [cnt, h]
theorem cnt_ne {X : List Int} {R : Nat → List Int} {i : Nat} (h : ¬ pAt X R i = R i) : cnt X R (i + 1) = cnt X R i + 1 := by simp [cnt, h]

def logAt (X D : List Int) (R : Nat → List Int) (i : Nat) : List Int := D ++ List.replicate (cnt X R i) (-2)

theorem logAt_succ (X D : List Int) (R : Nat → List Int) (i : Nat) : pushed (pAt X R i) (R i) (logAt X D R i) = logAt X D R (i + 1) := by
  unfold pushed logAt
  simp only [cnt]
  split
  · simp
  · rw [List.replicate_succ']; simp

theorem logAt_length (X D : List Int) (R : Nat → List Int) (i : Nat) : (logAt X D R i).length = D.length + cnt X R i := by simp [logAt]

theorem logAt_left (X D : List Int) (R : Nat → List Int) (i j : Nat) (h : j < D.length) : (logAt X D R i).getD j 0 = D.getD j 0 := by
  simp only [logAt, List.getD]
  rw [List.getElem?_append_left h]

theorem logAt_right (X D : List Int) (R : Nat → List Int) (i j : Nat) (h : D.length ≤ j) (h2 : j < D.length + cnt X R i) : (logAt X D R i).getD j 0 = -2 := by
  simp only [logAt, List.getD]
  rw [List.getElem?_append_right h, List.getElem?_replicate, if_pos (by omega)]
  rfl

end Go.Proofs.Qxb6617750a
