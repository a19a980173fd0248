import Derived.Test.Qxb6618313aLaw
import Derived.ProofKit
import Derived.ShutString
import Derived.ChangeOld
import Derived.Below
import Derived.Deep.Matrix
namespace Go.Proofs.Qxb6618313a
open Go.ChangeShapes Go.WideShapes Go.ChangeAt Go.RowKit

theorem own : ownKnob Try.prog.godebug = none := by kernel_rfl
theorem laidOut : laidOutB Try.prog = true := by kernel_rfl
theorem Try.cells3 : Try.prog.cellsOf 3 = 1 := by kernel_rfl
theorem Try.cells4 : Try.prog.cellsOf 4 = 1 := by kernel_rfl

section
variable {H : Type} {enc : TypeId × Value → H} {P : Program} {w : World} {base : Nat} {sp : Nat → Bool} {held : Bool}

theorem int_cell {e : TypeId} (he : P.underlying e = some (.int .i64)) : ∀ (n : Nat) (cs : List Value) (y : DataW H × List MemPlace), DataW.trod enc P w base sp held n e cs = some y → ∃ b : Int, cs = [.int .i64 b] := by
  intro n cs y h
  obtain ⟨b, hb, _⟩ := DataW.trod_int he h
  exact ⟨b, hb⟩

theorem bool_cell {e : TypeId} (he : P.underlying e = some .bool) : ∀ (n : Nat) (cs : List Value) (y : DataW H × List MemPlace), DataW.trod enc P w base sp held n e cs = some y → ∃ b : Bool, cs = [.bool b] := by
  intro n cs y h
  obtain ⟨b, hb, _⟩ := DataW.trod_bool he h
  exact ⟨b, hb⟩

theorem open_any {β : Type} (val : β → Value) (z : β) {t e : TypeId} (ht : P.underlying t = some (.slice e)) (hc : P.cellsOf e = 1)
    (hv : ∀ (n : Nat) (cs : List Value) (y : DataW H × List MemPlace), DataW.trod enc P w base sp held n e cs = some y → ∃ b : β, cs = [val b]) {fuel : Nat} {ao : Option Addr} {len cap : Nat} {x : DataW H × List MemPlace}
    (h : DataW.trod enc P w base sp held fuel t [.slice ao len cap] = some x) :
    ∃ f : Nat → β, Reads w ao len (fun i => val (f i)) ∧ (ao = none → cap = 0) ∧ len ≤ cap ∧ len ≤ maxLen := by
  rcases DataW.trod_slice ht h with ⟨hcs, _⟩ | ⟨a, len', cap', elems, rest, n, _, hcs, _, _, hl, hm, hlen, hel, _, _⟩
  · simp at hcs
    obtain ⟨rfl, rfl, rfl⟩ := hcs
    exact ⟨fun _ => z, .inl rfl, fun _ => rfl, Nat.le_refl _, Nat.zero_le _⟩
  · simp at hcs
    obtain ⟨rfl, rfl, rfl⟩ := hcs
    have each : ∀ i, ∃ b : β, i < len → w.cell? (a.add i) = some (val b) := by
      intro i
      by_cases hi : i < len
      · have hE := hel i hi
        rw [hc, Nat.mul_one] at hE
        rw [List.getElem?_eq_getElem (by omega), Option.bind_eq_some_iff] at hE
        obtain ⟨cs', hcs, hy⟩ := hE
        obtain ⟨b, rfl⟩ := hv _ _ _ hy
        exact ⟨b, fun _ => cell_of_cells?_one hcs⟩
      · exact ⟨z, fun h => absurd h hi⟩
    obtain ⟨f, hf⟩ : ∃ f : Nat → β, ∀ i, i < len → w.cell? (a.add i) = some (val (f i)) := ⟨fun i => Classical.choose (each i), fun i hi => Classical.choose_spec (each i) hi⟩
    refine ⟨f, ?_, (fun h => by cases h), hl, by omega⟩
    by_cases h0 : len = 0
    · exact .inl h0
    · have hsp := hf 0 (by omega)
      obtain ⟨b, off, spot⟩ := a
      have hspot : spot = none := by simpa [Addr.add] using World.cell?_spot hsp
      subst hspot
      refine .inr ⟨b, off, rfl, fun i hi => ?_⟩
      have := hf i hi
      rw [Addr.add_lit] at this
      exact this
end

theorem tcons {H : Type} {enc : TypeId × Value → H} {P : Program} {w : World} {base : Nat} {spare : Nat → Bool} {held : Bool} {t : TypeId} {ts : List TypeId} {v : Value} {vs : List Value} {d : DataW H} {ds : List (DataW H)} {p p' : List MemPlace}
    (h : DataW.Trod enc P w base spare held t v d p) (hs : DataW.TrodAll enc P w base spare held ts vs ds p') : DataW.TrodAll enc P w base spare held (t :: ts) (v :: vs) (d :: ds) (p ++ p') := ⟨p, p', h, hs, rfl⟩

set_option maxRecDepth 100000 in
set_option maxHeartbeats 1000000 in
theorem lifted (os : Os) (started : os.Started) (H : Type) (enc : TypeId × Value → H) :
    ReturnsInHanded {} Try.checked os 3 .any (Rows.fnFifoStepScriptMatchesLogModelSpec.pre6 enc Try.prog Try.f3 Rows.fnFifoStepScriptMatchesLogModelRow.domain false) (Rows.fnFifoStepScriptMatchesLogModelSpec.post enc Try.prog Try.f3 false true false false) := by
  refine returnsInHanded_of_change (C := Try.checked) own started (by kernel_rfl) Try.func3
    (ChangeSpec.witness6 (enc := enc) (C := Try.checked) false ⟨#[], #[.slice none 0 0, .slice none 0 0, .slice none 0 0, .slice none 0 0], []⟩ 8 (by kernel_rfl) (by kernel_rfl) (by kernel_rfl) (by kernel_rfl)) ?_
  intro W base args ds gs before hval0 hW hcnd _
  have hval : ∀ (j : Nat) t v, Try.f3.params[j]? = some t → args[j]? = some v → Value.okWide Try.prog W .any base t v := hval0
  have hW' := hW
  obtain ⟨p, q, hA0, hV, rfl, hfz, hnd⟩ := hW
  have hA : DataW.TrodAll enc Try.prog W 0 (fun _ => true) true Try.f3.params.toList args.toList ds p := hA0
  rw [Try.params3] at hA hval
  obtain ⟨v0, vs0, d0, ds0, p0, q0, hargs, rfl, rfl, h0, r0⟩ := trodAll_cons hA
  obtain ⟨v1, vs1, d1, ds1, p1, q1, rfl, rfl, rfl, h1, r1⟩ := trodAll_cons r0
  obtain ⟨v2, vs2, d2, ds2, p2, q2, rfl, rfl, rfl, h2, r2⟩ := trodAll_cons r1
  obtain ⟨v3, vs3, d3, ds3, p3, q3, rfl, rfl, rfl, h3, r3⟩ := trodAll_cons r2
  obtain ⟨rfl, rfl, rfl⟩ := trodAll_nil r3
  obtain rfl : args = #[v0, v1, v2, v3] := by cases args; simp_all
  obtain ⟨rfl, rfl⟩ := trodVars_none hV
  obtain ⟨a0, len0, cap0, rfl⟩ := okWide_slice Try.underlying22 (hval 0 22 v0 rfl rfl)
  obtain ⟨a1, len1, cap1, rfl⟩ := okWide_slice Try.underlying23 (hval 1 23 v1 rfl rfl)
  obtain ⟨a2, len2, cap2, rfl⟩ := okWide_slice Try.underlying22 (hval 2 22 v2 rfl rfl)
  obtain ⟨a3, len3, cap3, rfl⟩ := okWide_slice Try.underlying23 (hval 3 23 v3 rfl rfl)
  have k0 := h0
  have k1 := h1
  have k2 := h2
  have k3 := h3
  have lt0 : ∀ x ∈ p0, x.block < W.heap.size := by obtain ⟨m, hm⟩ := k0; exact DataW.trod_lt m _ _ _ hm
  have lt1 : ∀ x ∈ p1, x.block < W.heap.size := by obtain ⟨m, hm⟩ := k1; exact DataW.trod_lt m _ _ _ hm
  have lt2 : ∀ x ∈ p2, x.block < W.heap.size := by obtain ⟨m, hm⟩ := k2; exact DataW.trod_lt m _ _ _ hm
  have lt3 : ∀ x ∈ p3, x.block < W.heap.size := by obtain ⟨m, hm⟩ := k3; exact DataW.trod_lt m _ _ _ hm
  obtain ⟨fuel0, hf0⟩ := h0
  obtain ⟨f0, w0, n0, l0, m0⟩ := open_any (.int .i64) (0 : Int) Try.underlying22 Try.cells3 (int_cell Try.underlying3) hf0
  obtain ⟨fuel1, hf1⟩ := h1
  obtain ⟨f1, w1, n1, l1, m1⟩ := open_any (.bool) false Try.underlying23 Try.cells4 (bool_cell Try.underlying4) hf1
  obtain ⟨fuel2, hf2⟩ := h2
  obtain ⟨f2, w2, n2, l2, m2⟩ := open_any (.int .i64) (0 : Int) Try.underlying22 Try.cells3 (int_cell Try.underlying3) hf2
  obtain ⟨fuel3, hf3⟩ := h3
  obtain ⟨f3, w3, n3, l3, m3⟩ := open_any (.bool) false Try.underlying23 Try.cells4 (bool_cell Try.underlying4) hf3
  clear hA0 hval0
  refine (law_any W len0 len1 len2 len3 f0 f2 f1 f3 a0 a1 a2 a3 cap0 cap1 cap2 cap3 w0 w1 w2 w3 l0 l1 l2 l3 n0 n1 n2 n3 m0 m1 m2 m3).mono fun e W' ⟨he, bel⟩ => ?_
  subst he
  exact ⟨_, rfl, _, _, _, [], _, [], hW', trodAll_mk1 (shut_bool Try.underlying4 _), (tcons (Below.trod laidOut (by kernel_rfl) (of_decide_eq_true (by kernel_rfl)) k0 bel lt0) (tcons (Below.trod laidOut (by kernel_rfl) (of_decide_eq_true (by kernel_rfl)) k1 bel lt1) (tcons (Below.trod laidOut (by kernel_rfl) (of_decide_eq_true (by kernel_rfl)) k2 bel lt2) (tcons (Below.trod laidOut (by kernel_rfl) (of_decide_eq_true (by kernel_rfl)) k3 bel lt3) (trodAll_mk0))))), rfl, bel.frame _, fun h => by cases h⟩

theorem over : Rows.fnFifoStepScriptMatchesLogModelRow.holds Try.pinned (OpenSpec.ofChange Rows.fnFifoStepScriptMatchesLogModelSpec) :=
  OpenClaim.holds_of_wide 3 Try.f3 rfl rfl rfl rfl rfl rfl rfl ⟨rfl, rfl, rfl, rfl, rfl⟩ rfl rfl rfl rfl rfl (by kernel_rfl) Try.func3 (by kernel_rfl)
    (of_decide_eq_true (by kernel_rfl)) (by unfold Func.isWrapper; first | (rw [if_pos (by decide +kernel)]; kernel_rfl) | (rw [if_neg (by decide +kernel)]; exact ⟨rfl, rfl⟩))
    (fun os started H enc _ => lifted os started H enc)

/-- THE STATEMENT -/
theorem proved : Rows.FnFifoStepScriptMatchesLogModelSaid := over
end Go.Proofs.Qxb6618313a
