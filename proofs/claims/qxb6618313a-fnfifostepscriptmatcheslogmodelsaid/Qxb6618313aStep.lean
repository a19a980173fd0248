import Derived.Test.Qxb6618313aParts
import Derived.Deep.RegionLawGrows
namespace Go.Proofs.Qxb6618313a
open Go.RowKit

/-- A queue's state: a slice of n numbers X, in a block that A lets be. -/
structure St (w : World) (A : Nat → Prop) (so : Option Addr) (n c : Nat) (X : Nat → Int) : Prop where
  rd : Reads w so n (fun i => .int .i64 (X i))
  aw : n = 0 ∨ ∃ b off, so = some ⟨b, off, none⟩ ∧ A b
  le : n ≤ c
  cap : c ≤ maxLen
  nil : so = none → c = 0

theorem St.below {w w' : World} {A : Nat → Prop} {so : Option Addr} {n c : Nat} {X : Nat → Int} (h : St w A so n c X) (hb : Below w.heap.size w w') : St w' A so n c X := ⟨h.rd.below (Nat.le_refl _) hb, h.aw, h.le, h.cap, h.nil⟩

/-- A state and a verdict handed back. -/
def RetStep (w' : World) (A : Nat → Prop) (n : Nat) (X : Nat → Int) (b : Bool) (e : Ending) : Prop := ∃ so c, e = .returned (.tuple #[.slice so n c, .bool b]) ∧ St w' A so n c X

theorem ret_tuple {x : Value} {a b : Bool} (h : a = b) : Ending.returned (.tuple #[x, .bool a]) = .returned (.tuple #[x, .bool b]) := by rw [h]

set_option maxHeartbeats 1000000 in
theorem fifo_empty (A : Nat → Prop) (so : Option Addr) (c : Nat) (X : Nat → Int) (v : Int) (k : Bool) (w : World) (h : St w A so 0 c X) :
    Calls Try.prog 12 #[.slice so 0 c, .agg #[.bool true, .int .i64 v, .bool k]] w fun e w' => RetStep w' A 0 X (!k && decide (v = 0)) e ∧ Below w.heap.size w w' := by
  have hb0 : Below w.heap.size w (w.alloc (.cells #[.bool true, .int .i64 v, .bool k] 28)) := (Below.refl _ _).alloc (Nat.le_refl _) _
  have h1 := h.below hb0
  have e0 := Go.heap_alloc_new w (.cells #[.bool true, .int .i64 v, .bool k] 28)
  cases k with
  | true =>
    go_enter Try.func12, Try.ntmps12
    go_wp2
    go_quiet (fail)
    go_wp2
    go_ret2
    exact ⟨⟨_, _, rfl, h1.below (below_drew0 _ nq)⟩, below_drewN hb0 nq⟩
  | false =>
    have HV : Hid ((v == 0) = (!false && decide (v = 0))) := by show (v == 0) = _; rw [Bool.eq_iff_iff]; simp
    go_enter Try.func12, Try.ntmps12
    go_wp2
    go_quiet (fail)
    go_wp2
    go_ret2
    exact ⟨⟨_, _, ret_tuple HV.out, h1.below (below_drew0 _ nq)⟩, below_drewN hb0 nq⟩

theorem St.tail {w : World} {A : Nat → Prop} {b off n c : Nat} {X : Nat → Int} (h : St w A (some ⟨b, off, none⟩) (n + 1) c X) : St w A (if c = 1 then some ⟨b, off, none⟩ else some ⟨b, off + 1, none⟩) n (c - 1) (fun i => X (i + 1)) := by
  have h1 := h.le
  have h2 := h.cap
  refine ⟨?_, ?_, by omega, by omega, fun e => by split at e <;> cases e⟩
  rotate_left
  · rcases h.aw with h' | ⟨b', off', e, ha⟩
    · omega
    · simp only [Option.some.injEq, Addr.mk.injEq, and_true] at e
      obtain ⟨rfl, rfl⟩ := e
      refine .inr ?_
      split
      · exact ⟨b, off, rfl, ha⟩
      · exact ⟨b, off + 1, rfl, ha⟩
  by_cases h0 : n = 0
  · exact .inl h0
  · rcases h.rd with h' | ⟨b', off', e, hc⟩
    · omega
    · simp only [Option.some.injEq, Addr.mk.injEq, and_true] at e
      obtain ⟨rfl, rfl⟩ := e
      rw [if_neg (by omega)]
      refine .inr ⟨b, off + 1, rfl, fun i hi => ?_⟩
      have := hc (i + 1) (by omega)
      rw [show off + 1 + i = off + (i + 1) by omega]
      exact this

set_option maxHeartbeats 1000000 in
theorem fifo_deq (A : Nat → Prop) (so : Option Addr) (n c : Nat) (X : Nat → Int) (v : Int) (k : Bool) (w : World) (h : St w A so (n + 1) c X) :
    Calls Try.prog 12 #[.slice so (n + 1 : Nat) c, .agg #[.bool true, .int .i64 v, .bool k]] w fun e w' => RetStep w' A n (fun i => X (i + 1)) (k && decide (v = X 0)) e ∧ Below w.heap.size w w' := by
  have hb0 : Below w.heap.size w (w.alloc (.cells #[.bool true, .int .i64 v, .bool k] 28)) := (Below.refl _ _).alloc (Nat.le_refl _) _
  have h1 := h.below hb0
  have hle := h.le
  have hcp := h.cap
  unfold maxLen at hcp
  have e0 := Go.heap_alloc_new w (.cells #[.bool true, .int .i64 v, .bool k] 28)
  rcases h1.rd with h0 | ⟨b, off, rfl, hc⟩
  · omega
  have ex : (w.alloc (.cells #[.bool true, .int .i64 v, .bool k] 28)).cell? ⟨b, off, none⟩ = some (.int .i64 (X 0)) := hc 0 (by omega)
  have T := h1.tail
  clear hc h h1
  by_cases hc1 : c = 1
  · subst hc1
    rw [if_pos rfl] at T
    obtain rfl : n = 0 := by omega
    cases k with
    | false =>
      go_enter Try.func12, Try.ntmps12
      go_wp2
      go_quiet (fail)
      go_wp2
      go_ret2
      exact ⟨⟨_, _, rfl, T.below (below_drew0 _ nq)⟩, below_drewN hb0 nq⟩
    | true =>
      have HV : Hid ((v == X 0) = (true && decide (v = X 0))) := by show (v == X 0) = _; rw [Bool.eq_iff_iff]; simp
      go_enter Try.func12, Try.ntmps12
      go_wp2
      go_quiet (fail)
      go_wp2
      go_ret2
      exact ⟨⟨_, _, ret_tuple HV.out, T.below (below_drew0 _ nq)⟩, below_drewN hb0 nq⟩
  · rw [if_neg hc1] at T
    cases k with
    | false =>
      go_enter Try.func12, Try.ntmps12
      go_wp2
      go_quiet (fail)
      go_wp2
      go_ret2
      exact ⟨⟨_, _, rfl, T.below (below_drew0 _ nq)⟩, below_drewN hb0 nq⟩
    | true =>
      have HV : Hid ((v == X 0) = (true && decide (v = X 0))) := by show (v == X 0) = _; rw [Bool.eq_iff_iff]; simp
      go_enter Try.func12, Try.ntmps12
      go_wp2
      go_quiet (fail)
      go_wp2
      go_ret2
      exact ⟨⟨_, _, ret_tuple HV.out, T.below (below_drew0 _ nq)⟩, below_drewN hb0 nq⟩

set_option maxHeartbeats 2000000 in
theorem step_clip {ops : Array Oper} {o : Oper} {a : Act} {w : World} {K : Act → World → Prop} {Q : Exit → Act → World → Prop} {E : Prop}
    (hg : o.guard = none) (hop : o.op = Op.call { callee := Callee.value (Operand.func 13), args := #[Operand.tmp 22], argTypes := #[22] })
    (so : Option Addr) (n c : Nat) (hx : a.eval (Operand.tmp 22) = .slice so n c) (hc : n ≤ c) (hz : so = none → c = 0) (hn : c ≤ maxLen) (hK : K (a.put o.dst (.slice so n n)) w) :
    if Region.wanted o (yielded ops a.tmps) = true then Oper.wp Try.prog o a w K Q else E := by
  have hw : Region.wanted o (yielded ops a.tmps) = true := by simp [Region.wanted, hg]
  rw [if_pos hw]
  have hx' : a.tmps[22]?.getD undef = .slice so n c := by simpa [Act.eval] using hx
  unfold Oper.wp execOp
  rw [hop]
  simp [go_sem]
  rw [hx']
  refine (clip_any so n c w hc hz hn).mono ?_
  rintro e w' ⟨rfl, rfl⟩
  exact hK

/-- The cells of a state. -/
def olds (X : Nat → Int) (n : Nat) : List Value := (List.range n).map fun i => .int .i64 (X i)

theorem St.holds {w : World} {A : Nat → Prop} {so : Option Addr} {n c : Nat} {X : Nat → Int} (h : St w A so n c X) : ∀ b, so = some b → ∀ j u, (olds X n)[j]? = some u → w.cell? (b.add j) = some u := by
  intro b hb j u hj
  have hjn : j < n := by
    have := (List.getElem?_eq_some_iff.1 hj).1
    simpa [olds] using this
  rcases h.rd with h0 | ⟨b', off, e, hc⟩
  · omega
  · rw [hb] at e
    obtain rfl := Option.some.inj e
    rw [Addr.add_lit, hc j hjn]
    simpa [olds, hjn] using hj

theorem cell_of_one {w : World} {b : Nat} {x : Value} {t : TypeId} {f : Nat × Nat} (h : w.heap[b]? = some (.cells #[x] t f)) : w.cell? ⟨b, 0, none⟩ = some x := by
  simp [World.cell?, h]

theorem one_new (w : World) (x : Value) (t : TypeId) : ∀ (j : Nat) (u : Value), [x][j]? = some u → (w.alloc (.cells #[x] t)).cell? ((⟨w.heap.size, 0, none⟩ : Addr).add j) = some u := by
  intro j u hj
  match j, hj with
  | 0, hj =>
    simp only [List.getElem?_cons_zero, Option.some.injEq] at hj
    subst hj
    show (w.alloc (.cells #[x] t)).cell? ⟨w.heap.size, 0, none⟩ = _
    exact cell_of_one (Go.heap_alloc_new w _)

theorem enq_state {W w' : World} {A : Nat → Prop} {n : Nat} {X : Nat → Int} {v : Int} {r : Value} (h : w'.ownsRow W.heap.size 3 1 r (n + 1) (olds X n ++ [.int .i64 v])) (hA : ∀ b, W.heap.size ≤ b → A b) :
    ∃ g cap, r = .slice (some ⟨g, 0, none⟩) (n + 1) cap ∧ St w' A (some ⟨g, 0, none⟩) (n + 1) cap (fun i => if i < n then X i else v) := by
  rcases h.2 with ⟨_, h0⟩ | ⟨g, cap, cur, rfl, hg, _, hnc, hcm, _⟩
  · omega
  · refine ⟨g, cap, rfl, .inr ⟨g, 0, rfl, fun i hi => ?_⟩, .inr ⟨g, 0, rfl, hA g hg⟩, hnc, hcm, fun e => by cases e⟩
    rw [Nat.zero_add, h.cellAt i (by omega)]
    by_cases hin : i < n
    · rw [List.getElem?_append_left (by simpa [olds] using hin)]
      simp [olds, hin]
    · obtain rfl : i = n := by omega
      rw [List.getElem?_append_right (by simp [olds])]
      simp [olds]

set_option maxHeartbeats 1000000 in
theorem fifo_enq (A : Nat → Prop) (so : Option Addr) (n c : Nat) (X : Nat → Int) (v : Int) (k : Bool) (w : World) (h : St w A so n c X) (hn : n ≤ 1048576) (hA : ∀ b, w.heap.size ≤ b → A b) :
    Calls Try.prog 12 #[.slice so n c, .agg #[.bool false, .int .i64 v, .bool k]] w fun e w' => RetStep w' A (n + 1) (fun i => if i < n then X i else v) true e ∧ Below w.heap.size w w' := by
  obtain ⟨i0, hi, hz0, hz1, hz2⟩ := info_parts Try.info3
  have hb0 : Below w.heap.size w (w.alloc (.cells #[.bool false, .int .i64 v, .bool k] 28)) := (Below.refl _ _).alloc (Nat.le_refl _) _
  have h1 := h.below hb0
  have e0 := Go.heap_alloc_new w (.cells #[.bool false, .int .i64 v, .bool k] 28)
  have HA : Hid (∀ b, w.heap.size + 1 + 1 ≤ b → A b) := fun b hb => hA b (by omega)
  have HLE : Hid (n ≤ c) := h.le
  have HNL : Hid (so = none → c = 0) := h.nil
  have HCP : Hid (c ≤ maxLen) := h.cap
  have HNN : Hid (so = none → n = 0 ∧ n = 0) := fun e => ⟨h.rd.nil e, h.rd.nil e⟩
  clear h hA
  go_enter Try.func12, Try.ntmps12
  go_wp2
  have ex : (w.alloc (.cells #[.bool false, .int .i64 v, .bool k] 28)).cell? ⟨w.heap.size, 1, none⟩ = some (.int .i64 v) := by simp only [World.cell?, e0]; rfl
  clear e0
  have hsz : (w.alloc (.cells #[.bool false, .int .i64 v, .bool k] 28)).heap.size = w.heap.size + 1 := by simp
  generalize w.alloc (.cells #[.bool false, .int .i64 v, .bool k] 28) = w0 at hb0 h1 ex hsz ⊢
  have HSZ : Hid (w0.heap.size = w.heap.size + 1) := hsz
  clear hsz
  generalize w.heap.size = B at ex ⊢
  have hb1 : Below w0.heap.size w0 (w0.alloc (.cells #[.int .i64 v] 3)) := (Below.refl _ _).alloc (Nat.le_refl _) _
  have HO : Hid _ := (h1.below hb1).holds
  have HN : Hid _ := one_new w0 (.int .i64 v) 3
  have HA2 : Hid (∀ b, (w0.alloc (.cells #[.int .i64 v] 3)).heap.size ≤ b → A b) := fun b hb => HA.out b (by have := HSZ.out; simp at hb; omega)
  go_region_law (first | (refine step_clip rfl rfl so n c (by simp [Act.eval, Act.put]) HLE.out HNL.out HCP.out ?_) | (refine step_append_grows rfl (.tmp 23) (.tmp 26) 22 rfl 3 i0 (.int .i64 0) 1 8 Try.underlying22 hi hz0 hz1 hz2 rfl (by decide) so n n (olds X n) (by simp [Act.eval]) HNN.out (by simp [olds]) HO.out ⟨w0.heap.size, 0, none⟩ 1 1 [.int .i64 v] (by simp [Act.eval]) rfl HN.out (by intro u hu; simp at hu; subst hu; rfl) (by omega) (by unfold maxLen; omega) (by omega) ?_; intro r w2 hown hgrow; obtain ⟨g, cap, rfl, hst⟩ := enq_state hown HA2.out))
  all_goals
    go_wp2
    go_ret2
    exact ⟨⟨_, _, rfl, hst⟩, (hb0.alloc hb0.size _).drew.grown hgrow (Nat.le_trans hb0.size (by simp [World.drew])) (fun k h => by cases h)⟩

set_option maxHeartbeats 1000000 in
theorem zz_of (A : Nat → Prop) (so : Option Addr) (n c : Nat) (d : Bool) (v : Int) (k : Bool) (w : World) (n' : Nat) (X' : Nat → Int) (b : Bool)
    (hcall : ∀ w0, Below w.heap.size w w0 → Calls Try.prog 12 #[.slice so n c, .agg #[.bool d, .int .i64 v, .bool k]] w0 fun e w' => RetStep w' A n' X' b e ∧ Below w0.heap.size w0 w') :
    Calls Try.prog 8 #[.slice so n c, .agg #[.bool d, .int .i64 v, .bool k]] w fun e w' => RetStep w' A n' X' b e ∧ Below w.heap.size w w' := by
  have hb0 : Below w.heap.size w (w.alloc (.cells #[.bool d, .int .i64 v, .bool k] 28)) := (Below.refl _ _).alloc (Nat.le_refl _) _
  have HC : Hid _ := hcall _ hb0
  clear hcall
  go_enter Try.func8, Try.ntmps8
  go_wp2_with fail
  refine Calls.mono HC.out ?_
  rintro e w1 ⟨⟨so', c', rfl, hst⟩, hb1⟩
  go_wp2_with fail
  go_ret2
  exact ⟨⟨_, _, rfl, hst⟩, hb0.trans (hb1.mono hb0.size)⟩

end Go.Proofs.Qxb6618313a
