import Derived.Test.Qxb6618312aLaw
import Derived.ProofKit
import Derived.ShutString
import Derived.ChangeOld
import Derived.Below
import Derived.Deep.Slices
namespace Go.Proofs.Qxb6618312a
open Go.ChangeShapes Go.WideShapes Go.ChangeAt Go.RowKit

theorem own : ownKnob Try.prog.godebug = none := by kernel_rfl

theorem tcons {H : Type} {enc : TypeId × Value → H} {P : Program} {w : World} {base : Nat} {spare : Nat → Bool} {held : Bool} {t : TypeId} {ts : List TypeId} {v : Value} {vs : List Value} {d : DataW H} {ds : List (DataW H)} {p p' : List MemPlace}
    (h : DataW.Trod enc P w base spare held t v d p) (hs : DataW.TrodAll enc P w base spare held ts vs ds p') : DataW.TrodAll enc P w base spare held (t :: ts) (v :: vs) (d :: ds) (p ++ p') := ⟨p, p', h, hs, rfl⟩

/-- One identity, read out of its four cells. -/
theorem open_zid {H : Type} {enc : TypeId × Value → H} {w : World} {base n : Nat} {spare : Nat → Bool} {held : Bool} {cs : List Value} {x : DataW H × List MemPlace} (hl : cs.length = 4) (h : DataW.trod enc Try.prog w base spare held n 25 cs = some x) :
    ∃ z : Zid, cs = [.string z.1, .bool z.2.1, .string z.2.2.1, .int .i64 z.2.2.2] ∧ OkZ z := by
  obtain ⟨xs, n', _, _, _, hxl, hf⟩ := DataW.trod_struct Try.underlying25 h
  match cs, hl with
  | [v0, v1, v2, v3], _ =>
    have f0 : DataW.trod enc Try.prog w base spare held n' 9 [v0] = xs[0]? := by simpa [Try.cells9] using hf 0 _ rfl
    have f1 : DataW.trod enc Try.prog w base spare held n' 4 [v1] = xs[1]? := by simpa [Try.cells4] using hf 1 _ rfl
    have f2 : DataW.trod enc Try.prog w base spare held n' 9 [v2] = xs[2]? := by simpa [Try.cells9] using hf 2 _ rfl
    have f3 : DataW.trod enc Try.prog w base spare held n' 3 [v3] = xs[3]? := by simpa [Try.cells3] using hf 3 _ rfl
    have hx : xs.length = 4 := hxl
    rw [List.getElem?_eq_getElem (by omega)] at f0 f1 f2 f3
    obtain ⟨a, e0, _, s0⟩ := DataW.trod_string Try.underlying9 f0
    obtain ⟨b, e1, _⟩ := DataW.trod_bool Try.underlying4 f1
    obtain ⟨c, e2, _, s2⟩ := DataW.trod_string Try.underlying9 f2
    obtain ⟨d, e3, _, wd⟩ := DataW.trod_int Try.underlying3 f3
    simp only [List.cons.injEq, and_true] at e0 e1 e2 e3
    subst e0 e1 e2 e3
    exact ⟨(a, b, c, d), rfl, s0, s2, wd⟩

/-- A slice of identities that came in. -/
theorem open_zrow {H : Type} {enc : TypeId × Value → H} {W : World} {a0 : Option Addr} {len cap fuel : Nat} {x : DataW H × List MemPlace} (h : DataW.trod enc Try.prog W 0 (fun _ => true) true fuel 22 [.slice a0 len cap] = some x) :
    ∃ A : List Zid, ZRow W a0 len A ∧ (∀ z ∈ A, OkZ z) ∧ len ≤ maxLen := by
  rcases Go.Deep.open_slice Try.underlying22 h with ⟨hcs, _⟩ | ⟨a, l, c, m, n, D, Pl, hcs, _, hl, hm, hmm, _, hx⟩
  · simp at hcs
    obtain ⟨rfl, rfl, rfl⟩ := hcs
    exact ⟨[], ⟨rfl, .inl rfl⟩, by simp, Nat.zero_le _⟩
  · simp at hcs
    obtain ⟨rfl, rfl, rfl⟩ := hcs
    simp only [if_true] at hmm
    subst hmm
    rw [Try.cells25] at hx
    have each : ∀ i, i < len → ∃ z : Zid, OkZ z ∧ W.cell? ((a.add (i * 4)).add 0) = some (.string z.1) ∧ W.cell? ((a.add (i * 4)).add 1) = some (.bool z.2.1) ∧ W.cell? ((a.add (i * 4)).add 2) = some (.string z.2.2.1) ∧ W.cell? ((a.add (i * 4)).add 3) = some (.int .i64 z.2.2.2) := by
      intro i hi
      obtain ⟨cs', h1, h2⟩ := hx i (by omega)
      obtain ⟨_, hlen, hc⟩ := World.cells?_some h1
      obtain ⟨z, rfl, hz⟩ := open_zid hlen h2
      exact ⟨z, hz, hc 0 (by omega), hc 1 (by omega), hc 2 (by omega), hc 3 (by omega)⟩
    obtain ⟨Z, hZ⟩ := Go.Deep.choose_lt (α := Zid) each
    refine ⟨(List.range len).map Z, ⟨by simp, ?_⟩, ?_, by omega⟩
    · by_cases h0 : len = 0
      · exact .inl h0
      · obtain ⟨b, off, spot⟩ := a
        have hc := (hZ 0 (by omega)).2.1
        have hspot : spot = none := by
          have := World.cell?_spot hc
          simpa [Addr.add] using this
        subst hspot
        refine .inr ⟨b, off, rfl, fun i z hz => ?_⟩
        have hi : i < len := by
          have := (List.getElem?_eq_some_iff.1 hz).1
          simpa using this
        rw [List.getElem?_map, List.getElem?_range hi] at hz
        obtain rfl := Option.some.inj hz
        obtain ⟨_, c0, c1, c2, c3⟩ := hZ i hi
        rw [Addr.add_lit, Addr.add_lit] at c0 c1 c2 c3
        exact ⟨c0, c1, c2, c3⟩
    · intro z hz
      obtain ⟨i, hi, rfl⟩ := List.mem_map.1 hz
      exact (hZ i (by simpa using hi)).1

set_option maxRecDepth 100000 in
theorem lifted (os : Os) (started : os.Started) (H : Type) (enc : TypeId × Value → H) :
    ReturnsInHanded {} Try.checked os 3 .any (Rows.fnMatchKeysIsALongestCommonSubsequenceSpec.pre6 enc Try.prog Try.f3 Rows.fnMatchKeysIsALongestCommonSubsequenceRow.domain false) (Rows.fnMatchKeysIsALongestCommonSubsequenceSpec.post enc Try.prog Try.f3 false true false false) := by
  refine returnsInHanded_of_change (C := Try.checked) own started (by kernel_rfl) Try.func3
    (ChangeSpec.witness6 (enc := enc) (C := Try.checked) false ⟨#[], #[.slice none 0 0, .bool false, .bool false, .slice none 0 0, .bool false, .bool false], []⟩ 8 (by kernel_rfl) (by kernel_rfl) (by kernel_rfl) (by kernel_rfl)) ?_
  intro W base args ds gs before hval0 hW hcnd _
  have hval : ∀ (j : Nat) t v, Try.f3.params[j]? = some t → args[j]? = some v → Value.okWide Try.prog W .any base t v := hval0
  have hW' := hW
  obtain ⟨p, q, hA0, hV, rfl, hfz, hnd⟩ := hW
  have hA : DataW.TrodAll enc Try.prog W 0 (fun _ => true) true Try.f3.params.toList args.toList ds p := hA0
  rw [Try.params3] at hA hval
  obtain ⟨v0, vs0, d0, ds0, p0, q0, hargs, rfl, rfl, h0, r0⟩ := trodAll_cons hA
  obtain ⟨v1, vs1, d1, ds1, p1, q1, rfl, rfl, rfl, h1, r1⟩ := trodAll_cons r0
  obtain ⟨v2, vs2, d2, ds2, p2, q2, rfl, rfl, rfl, h2, r2⟩ := trodAll_cons r1
  obtain ⟨v3, vs3, d3, ds3, p3, q3, rfl, rfl, rfl, h3, r3⟩ := trodAll_cons r2
  obtain ⟨v4, vs4, d4, ds4, p4, q4, rfl, rfl, rfl, h4, r4⟩ := trodAll_cons r3
  obtain ⟨v5, vs5, d5, ds5, p5, q5, rfl, rfl, rfl, h5, r5⟩ := trodAll_cons r4
  obtain ⟨rfl, rfl, rfl⟩ := trodAll_nil r5
  obtain rfl : args = #[v0, v1, v2, v3, v4, v5] := by cases args; simp_all
  obtain ⟨rfl, rfl⟩ := trodVars_none hV
  obtain ⟨a0, len0, cap0, rfl⟩ := okWide_slice Try.underlying22 (hval 0 22 v0 rfl rfl)
  obtain ⟨x1, rfl, rfl, rfl⟩ := open_bool Try.underlying4 (hval 1 4 v1 rfl rfl) h1
  obtain ⟨x2, rfl, rfl, rfl⟩ := open_bool Try.underlying4 (hval 2 4 v2 rfl rfl) h2
  obtain ⟨a3, len3, cap3, rfl⟩ := okWide_slice Try.underlying22 (hval 3 22 v3 rfl rfl)
  obtain ⟨x4, rfl, rfl, rfl⟩ := open_bool Try.underlying4 (hval 4 4 v4 rfl rfl) h4
  obtain ⟨x5, rfl, rfl, rfl⟩ := open_bool Try.underlying4 (hval 5 4 v5 rfl rfl) h5
  have k0 := h0
  have k3 := h3
  have lt0 : ∀ x ∈ p0, x.block < W.heap.size := by obtain ⟨m, hm⟩ := k0; exact DataW.trod_lt m _ _ _ hm
  have lt3 : ∀ x ∈ p3, x.block < W.heap.size := by obtain ⟨m, hm⟩ := k3; exact DataW.trod_lt m _ _ _ hm
  obtain ⟨fuel0, hf0⟩ := h0
  obtain ⟨fuel3, hf3⟩ := h3
  obtain ⟨A, zA, oA, mA⟩ := open_zrow (by simpa [Value.cells] using hf0)
  obtain ⟨B, zB, oB, mB⟩ := open_zrow (by simpa [Value.cells] using hf3)
  clear hA0 hval0
  refine (law_any a0 len0 cap0 x1 x2 a3 len3 cap3 x4 x5 A B W zA zB mA mB oA oB).mono fun e W' ⟨he, bel⟩ => ?_
  subst he
  exact ⟨_, rfl, _, _, _, [], _, [], hW', trodAll_mk1 (shut_bool Try.underlying4 _), (tcons (Below.trod laidOut (by kernel_rfl) (of_decide_eq_true (by kernel_rfl)) k0 bel lt0) (tcons (shut_bool Try.underlying4 _) (tcons (shut_bool Try.underlying4 _) (tcons (Below.trod laidOut (by kernel_rfl) (of_decide_eq_true (by kernel_rfl)) k3 bel lt3) (tcons (shut_bool Try.underlying4 _) (tcons (shut_bool Try.underlying4 _) trodAll_mk0)))))), rfl, bel.frame _, fun h => by cases h⟩

theorem over : Rows.fnMatchKeysIsALongestCommonSubsequenceRow.holds Try.pinned (OpenSpec.ofChange Rows.fnMatchKeysIsALongestCommonSubsequenceSpec) :=
  OpenClaim.holds_of_wide 3 Try.f3 rfl rfl rfl rfl rfl rfl rfl ⟨rfl, rfl, rfl, rfl, rfl⟩ rfl rfl rfl rfl rfl (by kernel_rfl) Try.func3 (by kernel_rfl)
    (of_decide_eq_true (by kernel_rfl)) (by unfold Func.isWrapper; first | (rw [if_pos (by decide +kernel)]; kernel_rfl) | (rw [if_neg (by decide +kernel)]; exact ⟨rfl, rfl⟩))
    (fun os started H enc _ => lifted os started H enc)

/-- THE STATEMENT -/
theorem proved : Rows.FnMatchKeysIsALongestCommonSubsequenceSaid := over
end Go.Proofs.Qxb6618312a
