import Derived.Test.Qxb6618313aHist
import Derived.BigRegion
namespace Go.Proofs.Qxb6618313a
open Go.RowKit

/-- The number of a code's first region. -/
def firstRegion : Code → Option Nat
  | .region id _ _ => some id
  | .seq a _ => firstRegion a
  | .block _ c => firstRegion c
  | _ => none

/-- What stands from the statement on that opens with region r. -/
def suffix (r : Nat) : Code → Code
  | .seq a b => if firstRegion a = some r then .seq a b else suffix r b
  | c => c

/-- The post of the law. -/
abbrev LawPost (w : World) : Exit → Act → World → Prop := bodyPost Try.prog Try.f3 fun e w' => e = Ending.returned (Value.bool true) ∧ Below w.heap.size w w'

theorem St.away {w : World} {A A' : Nat → Prop} {so : Option Addr} {n c : Nat} {X : Nat → Int} (h : St w A so n c X) (ha : ∀ b, b < w.heap.size → A b → A' b) : St w A' so n c X := by
  refine ⟨h.rd, ?_, h.le, h.cap, h.nil⟩
  rcases h.aw with h0 | ⟨b, off, e, hA⟩
  · exact .inl h0
  · rcases h.rd with h0 | ⟨b', off', e', hc⟩
    · exact .inl h0
    · rw [e] at e'
      simp only [Option.some.injEq, Addr.mk.injEq, and_true] at e'
      obtain ⟨rfl, rfl⟩ := e'
      by_cases h0 : n = 0
      · exact .inl h0
      · exact .inr ⟨b, off, e, ha b (World.block_lt_of_cell? w _ (hc 0 (by omega))) hA⟩

theorem St.grown {w w' : World} {g : Nat} {so : Option Addr} {n c : Nat} {X : Nat → Int} (h : St w (fun b => b ≠ g) so n c X) (hg : w.grownBy w' (some g)) : St w' (fun b => b ≠ g) so n c X := by
  refine ⟨?_, h.aw, h.le, h.cap, h.nil⟩
  rcases h.aw with h0 | ⟨b, off, e, hA⟩
  · exact .inl h0
  · rcases h.rd with h0 | ⟨b', off', e', hc⟩
    · exact .inl h0
    · rw [e] at e'
      simp only [Option.some.injEq, Addr.mk.injEq, and_true] at e'
      obtain ⟨rfl, rfl⟩ := e'
      refine .inr ⟨b, off, e, fun i hi => ?_⟩
      have h1 := hc i hi
      rw [World.cell?_of_block (a := ⟨b, off + i, none⟩) (hg.block b (World.block_lt_of_cell? w _ h1) (fun e => hA (by cases e; rfl)))]
      exact h1

theorem after_push {w w2 : World} {B g L : Nat} {H : Nat → Int} {v : Int} {v' : Value} {so : Option Addr} {r sc : Nat} {X : Nat → Int} (hst : St w (fun b => b ≠ g) so r sc X)
    (hown : w2.ownsRow B 3 1 v' (L + 1) (olds H L ++ [.int .i64 v])) (hgrow : w.grownBy w2 (some g)) (hnew : ∀ k, v'.ownBlock = some k → some g = some k ∨ w.heap.size ≤ k) :
    ∃ g' cap', v' = .slice (some ⟨g', 0, none⟩) (L + 1) cap' ∧ Hist w2 B g' (L + 1) cap' (fun i => if i < L then H i else v) ∧ St w2 (fun b => b ≠ g') so r sc X := by
  obtain ⟨g', cap', rfl, hh⟩ := Hist.of_owns hown
  refine ⟨g', cap', rfl, hh, ?_⟩
  have h1 := hst.away (A' := fun b => b ≠ g ∧ b ≠ g') fun b hb hA => ⟨hA, fun e => by
    rcases hnew g' rfl with h | h
    · cases h; exact hA e
    · omega⟩
  have h2 := hst.grown hgrow
  refine ⟨h2.rd, ?_, h2.le, h2.cap, h2.nil⟩
  rcases h1.aw with h0 | ⟨b, off, e, hA⟩
  · exact .inl h0
  · exact .inr ⟨b, off, e, hA.2⟩

/-- Where the script stands. -/
structure Sst (w1 w : World) (n k : Nat) (g cap : Nat) (H : Nat → Int) (h r : Nat) (so : Option Addr) (sc : Nat) : Prop where
  bel : Below w1.heap.size w1 w
  hist : Hist w w1.heap.size g (h + r) cap H
  st : St w (fun b => b ≠ g) so r sc (fun i => H (h + i))
  bd : h + r ≤ n + k

theorem Sst.below {w1 w w' : World} {n k g cap : Nat} {H : Nat → Int} {h r : Nat} {so : Option Addr} {sc : Nat} (s : Sst w1 w n k g cap H h r so sc) (hb : Below w.heap.size w w') : Sst w1 w' n k g cap H h r so sc :=
  ⟨s.bel.trans (hb.mono s.bel.size), s.hist.below hb, s.st.below hb, s.bd⟩

set_option maxRecDepth 1000000 in
set_option maxHeartbeats 4000000 in
theorem tail22 (W w1 w : World) (n D g0 cap0 : Nat) (x0 x1 x2 x3 : Option Addr) (X V : Nat → Int) (Q O : Nat → Bool)
    (hW : Below W.heap.size W w1) (hb : Below w1.heap.size w1 w) (R0 : Reads w1 x0 n (fun i => .int .i64 (X i))) (R1 : Reads w1 x1 D (fun i => .bool (Q i))) (R2 : Reads w1 x2 D (fun i => .int .i64 (V i))) (R3 : Reads w1 x3 D (fun i => .bool (O i)))
    (HI : Hist w w1.heap.size g0 n cap0 X) (hn : n ≤ 4096) (hD : D ≤ 4096)
    (u4 u5 u6 u7 u8 u10 u11 u12 u13 u14 u15 u16 u17 u18 u19 u20 u21 u22 u23 u24 u25 u26 u27 u28 u29 u30 u31 u32 u33 u34 u35 u36 u37 u38 u39 u40 u41 u42 u43 u44 u45 u46 u47 u48 u49 u50 u51 u52 u53 u54 u55 u56 u57 u58 u59 u60 u61 u62 u63 u64 u65 u66 u67 u68 u69 u70 u71 u72 u73 u74 u75 u76 u77 u78 u79 u80 u81 u82 u83 u84 u85 u86 u87 u88 u89 u90 u91 u92 u93 u94 u95 u96 u97 u98 u99 u100 u101 u102 u103 u104 u105 u106 u107 u108 u109 u110 u111 u112 u113 u114 u115 u116 u117 u118 u119 u120 u121 u122 u123 u124 u125 u126 u127 u128 u129 u130 u131 u132 u133 u134 u135 u136 u137 u138 u139 u140 u141 u142 u143 u144 u145 u146 u147 u148 u149 u150 u151 u152 u153 u154 u155 : Value) :
    Code.wp Try.prog (suffix 22 (Try.f3.body.getD .skip)) (LawPost W) ⟨#[.slice x0 n n, .slice x1 D D, .slice x2 D D, .slice x3 D D, u4, u5, u6, u7, u8, .slice (some ⟨g0, 0, none⟩) n cap0, u10, u11, u12, u13, u14, u15, u16, u17, u18, u19, u20, u21, u22, u23, u24, u25, u26, u27, u28, u29, u30, u31, u32, u33, u34, u35, u36, u37, u38, u39, u40, u41, u42, u43, u44, u45, u46, u47, u48, u49, u50, u51, u52, u53, u54, u55, u56, u57, u58, u59, u60, u61, u62, u63, u64, u65, u66, u67, u68, u69, u70, u71, u72, u73, u74, u75, u76, u77, u78, u79, u80, u81, u82, u83, u84, u85, u86, u87, u88, u89, u90, u91, u92, u93, u94, u95, u96, u97, u98, u99, u100, u101, u102, u103, u104, u105, u106, u107, u108, u109, u110, u111, u112, u113, u114, u115, u116, u117, u118, u119, u120, u121, u122, u123, u124, u125, u126, u127, u128, u129, u130, u131, u132, u133, u134, u135, u136, u137, u138, u139, u140, u141, u142, u143, u144, u145, u146, u147, u148, u149, u150, u151, u152, u153, u154, u155], []⟩ w := by
  show Code.wp Try.prog (Code.seq _ _) (LawPost W) _ _
  obtain ⟨i0, hi, hz0, hz1, hz2⟩ := info_parts Try.info3
  have S0 : Sst w1 w n 0 g0 cap0 X 0 n x0 n := by
    refine ⟨hb, by rw [Nat.zero_add]; exact HI, ⟨?_, ?_, Nat.le_refl _, by unfold maxLen; omega, R0.nil⟩, by omega⟩
    · have := R0.below (Nat.le_refl _) hb
      simpa using this
    · rcases R0 with h0 | ⟨b, off, e, hc⟩
      · exact .inl h0
      · by_cases h0 : n = 0
        · exact .inl h0
        · have h1 := World.block_lt_of_cell? w1 _ (hc 0 (by omega))
          have h2 := HI.bounds.2.2.1
          exact .inr ⟨b, off, e, by simp at h1; omega⟩
  have HW : Hid (Below W.heap.size W w1) := hW
  clear hW hb HI R0
  go_wp2_with fail
  go_loopw [9, 11, 12, 13] (fun hv hd sv i wr => ∃ (k g cap h r : Nat) (H : Nat → Int) (so : Option Addr) (sc : Nat), k ≤ D ∧ hv = .slice (some ⟨g, 0, none⟩) (h + r : Nat) cap ∧ hd = .int .i64 (h : Int) ∧ sv = .slice so r sc ∧ i = .int .i64 (k : Int) ∧ Sst w1 wr n k g cap H h r so sc) (fun _ _ _ i _ => D - (intOf i).toNat)
  case atStart => exact ⟨0, g0, cap0, 0, n, X, x0, n, Nat.zero_le _, by simp, rfl, rfl, rfl, S0⟩
  case round =>
    clear S0
    obtain ⟨k, g, cap, h, r, H, so, sc, hk, rfl, rfl, rfl, rfl, S⟩ := hrel
    have hbd := S.bd
    by_cases hlt : k < D
    · rcases R1 with h0 | ⟨b1, f1, y1, R1⟩
      · omega
      rcases R2 with h0 | ⟨b2, f2, y2, R2⟩
      · omega
      rcases R3 with h0 | ⟨b3, f3, y3, R3⟩
      · omega
      have m1 := World.block_lt_of_cell? w1 _ (R1 k hlt)
      have m2 := World.block_lt_of_cell? w1 _ (R2 k hlt)
      have m3 := World.block_lt_of_cell? w1 _ (R3 k hlt)
      have T1 : Hid (∀ w', Below w1.heap.size w1 w' → w'.cell? ⟨b1, f1 + k, none⟩ = some (.bool (Q k))) := fun w' hb => (hb.cell (p := ⟨b1, f1 + k, none⟩) m1).trans (R1 k hlt)
      have T2 : Hid (∀ w', Below w1.heap.size w1 w' → w'.cell? ⟨b2, f2 + k, none⟩ = some (.int .i64 (V k))) := fun w' hb => (hb.cell (p := ⟨b2, f2 + k, none⟩) m2).trans (R2 k hlt)
      have T3 : Hid (∀ w', Below w1.heap.size w1 w' → w'.cell? ⟨b3, f3 + k, none⟩ = some (.bool (O k))) := fun w' hb => (hb.cell (p := ⟨b3, f3 + k, none⟩) m3).trans (R3 k hlt)
      subst y1 y2 y3
      clear R1 R2 R3 m1 m2 m3
      generalize Q k = d at T1
      generalize V k = v at T2
      generalize O k = o at T3
      have e1 := T1.out _ S.bel
      have e2 := T2.out _ S.bel
      have e3 := T3.out _ S.bel
      have ba : Below w1.heap.size w1 (wr.alloc (.cells #[.bool false, .int .i64 0, .bool false] 28)) := S.bel.alloc S.bel.size _
      have e1' := T1.out _ ba
      have e2' := T2.out _ ba
      have e3' := T3.out _ ba
      clear ba
      go_wp2_with fail
      go_region
      have bq : Below wr.heap.size wr ((wr.alloc (.cells #[.bool d, .int .i64 v, .bool o] 28)).drew) := ((Below.refl _ _).alloc (Nat.le_refl _) _).drew
      have S2 := S.below bq
      have hL : ((wr.alloc (.cells #[.bool d, .int .i64 v, .bool o] 28)).drew).heap[wr.heap.size]? = some (.cells #[.bool d, .int .i64 v, .bool o] 28 (0, 0)) := Go.heap_alloc_new wr _
      clear e1 e2 e3 e1' e2' e3' S bq
      generalize (wr.alloc (.cells #[.bool d, .int .i64 v, .bool o] 28)).drew = w2 at S2 hL ⊢
      generalize wr.heap.size = Lb at hL ⊢
      have l0 : w2.cell? ⟨Lb, 0, none⟩ = some (.bool d) := by simp only [World.cell?, hL]; rfl
      have l1 : w2.cell? ⟨Lb, 1, none⟩ = some (.int .i64 v) := by simp only [World.cell?, hL]; rfl
      have l2 : w2.cell? ⟨Lb, 2, none⟩ = some (.bool o) := by simp only [World.cell?, hL]; rfl
      clear hL
      obtain ⟨q1, q2, q3, q4⟩ := S2.hist.bounds
      have HG : Hid (g < w2.heap.size) := q4
      have HB : Hid (w1.heap.size ≤ g) := q3
      have hcm : cap ≤ 9223372036854775807 := by unfold maxLen at q2; omega
      clear q2 q3 q4
      cases d with
      | false =>
        go_wp2_with fail
        refine (zz_of (fun b => b ≠ g) so r sc false v o w2 (r + 1) (fun i => if i < r then H (h + i) else v) true (fun w0 hb0 => fifo_enq (fun b => b ≠ g) so r sc (fun i => H (h + i)) v o w0 (S2.st.below hb0) (by omega) (fun b hb' => by have := HG.out; have := hb0.size; omega))).mono ?_
        rintro e w3 ⟨⟨so', sc', rfl, hst⟩, b3⟩
        have bel3 := S2.bel.trans (b3.mono S2.bel.size)
        have hist3 := S2.hist.below b3
        have e1 := T1.out _ bel3
        have e2 := T2.out _ bel3
        have hst4 := hst.below ((Below.refl w3.heap.size w3).alloc (Nat.le_refl _) (.cells #[.int .i64 v] 3))
        clear S2 l0 l1 l2 hst b3
        go_wp2_with (at_builtin; refine wpList_append_own2 _ rfl _ _ 22 rfl w1.heap.size 3 i0 (.int .i64 0) 1 8 Try.underlying22 hi hz0 hz1 hz2 rfl (by decide) _ (h + r) (olds H (h + r)) rfl (hist3.own.alloc _) ⟨w3.heap.size, 0, none⟩ 1 1 [.int .i64 v] rfl rfl ?qa1 ?qa2 ?qa3 ?qa4 ?qa5 ?_)
        case qa1 => exact one_new _ _ _
        case qa2 => intro x hx; simp at hx; subst hx; rfl
        case qa3 => unfold maxLen; omega
        case qa4 => omega
        case qa5 => exact Nat.le_trans bel3.size (by simp)
        intro v' w4 hown hgrow hnew
        obtain ⟨g', cap', hv', HI4, ST4⟩ := after_push hst4 hown hgrow (fun k hk => (hnew k hk).imp id (fun h => by simpa using h))
        subst hv'
        have bel4 : Below w1.heap.size w1 w4 := (bel3.alloc bel3.size _).grown hgrow (Nat.le_trans bel3.size (by simp)) (fun k hk => by cases hk; exact HB.out)
        have hX : (fun i => if i < r then H (h + i) else v) = (fun i => (fun i => if i < h + r then H i else v) (h + i)) := by
          funext i
          by_cases hir : i < r
          · simp [hir]
          · simp [hir]
        rw [hX] at ST4
        have S4 : Sst w1 w4 n (k + 1) g' cap' (fun i => if i < h + r then H i else v) h (r + 1) so' sc' := ⟨bel4, HI4, ST4, by omega⟩
        have HT : Hid _ := S4.hist.tail
        obtain ⟨q1', q2', _, _⟩ := S4.hist.bounds
        have hcm' : cap' ≤ 9223372036854775807 := by unfold maxLen at q2'; omega
        have hne : ¬ cap' = h := by omega
        rw [if_neg hne] at HT
        clear hown hgrow hnew HI4 ST4 hX bel4 hist3 bel3 hst4 e1 e2 q2'
        have hlen : h + r + 1 - h = r + 1 := by omega
        go_wp2_with fail
        refine (same_any so' _ (r + 1) sc' _ _ w4 (by omega) S4.st.rd HT.out).mono ?_
        rintro e w5 ⟨rfl, q5, hw5⟩
        have b5 : Below w4.heap.size w4 w5 := by rw [hw5]; exact below_drew0 _ _
        have S5 := S4.below b5
        clear S4 HT b5 hw5
        go_wp2_with fail
        go_roundw
        case rel => exact ⟨k + 1, g', cap', h, r + 1, _, so', sc', by omega, rfl, rfl, rfl, by go_num, S5⟩
        case measure => simp [intOf]; omega
      | true =>
        cases r with
        | zero =>
          cases o with
          | true =>
            go_wp2_with fail
            refine (zz_of (fun b => b ≠ g) so 0 sc true v true w2 0 (fun i => H (h + i)) (!true && decide (v = 0)) (fun w0 hb0 => fifo_empty (fun b => b ≠ g) so sc (fun i => H (h + i)) v true w0 (S2.st.below hb0))).mono ?_
            rintro e w3 ⟨⟨so', sc', rfl, hst⟩, b3⟩
            have bel3 := S2.bel.trans (b3.mono S2.bel.size)
            have hist3 := S2.hist.below b3
            have e1 := T1.out _ bel3
            have e2 := T2.out _ bel3
            have e3 := T3.out _ bel3
            have S3 : Sst w1 w3 n (k + 1) g cap H h 0 so' sc' := ⟨bel3, hist3, hst, by omega⟩
            have HT : Hid _ := hist3.tail
            clear S2 l0 l1 l2 b3 bel3 hist3 hst
            by_cases hcap : cap = h
            · rw [if_pos hcap] at HT
              have HC : Hid (cap = h) := hcap
              subst hcap
              go_wp2_with fail
              refine (same_any so' _ 0 sc' _ (fun i => H (cap + i)) w3 (by omega) (.inl rfl) (.inl rfl)).mono ?_
              rintro e w5 ⟨rfl, q5, hw5⟩
              have b5 : Below w3.heap.size w3 w5 := by rw [hw5]; exact below_drew0 _ _
              have S5 := S3.below b5
              clear S3 HT b5 hw5 HC
              go_wp2_with fail
              go_roundw
              case rel => exact ⟨k + 1, g, cap, cap, 0, H, so', sc', by omega, rfl, rfl, rfl, by go_num, S5⟩
              case measure => simp [intOf]; omega
            · rw [if_neg hcap] at HT
              go_wp2_with fail
              refine (same_any so' _ 0 sc' _ (fun i => H (h + i)) w3 (by omega) (.inl rfl) (.inl rfl)).mono ?_
              rintro e w5 ⟨rfl, q5, hw5⟩
              have b5 : Below w3.heap.size w3 w5 := by rw [hw5]; exact below_drew0 _ _
              have S5 := S3.below b5
              clear S3 HT b5 hw5
              go_wp2_with fail
              go_roundw
              case rel => exact ⟨k + 1, g, cap, h, 0, H, so', sc', by omega, rfl, rfl, rfl, by go_num, S5⟩
              case measure => simp [intOf]; omega
          | false =>
            by_cases hv : v = 0
            · subst hv
              go_wp2_with fail
              refine (zz_of (fun b => b ≠ g) so 0 sc true 0 false w2 0 (fun i => H (h + i)) (!false && decide (0 = 0)) (fun w0 hb0 => fifo_empty (fun b => b ≠ g) so sc (fun i => H (h + i)) 0 false w0 (S2.st.below hb0))).mono ?_
              rintro e w3 ⟨⟨so', sc', rfl, hst⟩, b3⟩
              have bel3 := S2.bel.trans (b3.mono S2.bel.size)
              have hist3 := S2.hist.below b3
              have e1 := T1.out _ bel3
              have e2 := T2.out _ bel3
              have e3 := T3.out _ bel3
              have S3 : Sst w1 w3 n (k + 1) g cap H h 0 so' sc' := ⟨bel3, hist3, hst, by omega⟩
              have HT : Hid _ := hist3.tail
              clear S2 l0 l1 l2 b3 bel3 hist3 hst
              by_cases hcap : cap = h
              · rw [if_pos hcap] at HT
                have HC : Hid (cap = h) := hcap
                subst hcap
                go_wp2_with fail
                refine (same_any so' _ 0 sc' _ (fun i => H (cap + i)) w3 (by omega) (.inl rfl) (.inl rfl)).mono ?_
                rintro e w5 ⟨rfl, q5, hw5⟩
                have b5 : Below w3.heap.size w3 w5 := by rw [hw5]; exact below_drew0 _ _
                have S5 := S3.below b5
                clear S3 HT b5 hw5 HC
                go_wp2_with fail
                go_roundw
                case rel => exact ⟨k + 1, g, cap, cap, 0, H, so', sc', by omega, rfl, rfl, rfl, by go_num, S5⟩
                case measure => simp [intOf]; omega
              · rw [if_neg hcap] at HT
                go_wp2_with fail
                refine (same_any so' _ 0 sc' _ (fun i => H (h + i)) w3 (by omega) (.inl rfl) (.inl rfl)).mono ?_
                rintro e w5 ⟨rfl, q5, hw5⟩
                have b5 : Below w3.heap.size w3 w5 := by rw [hw5]; exact below_drew0 _ _
                have S5 := S3.below b5
                clear S3 HT b5 hw5
                go_wp2_with fail
                go_roundw
                case rel => exact ⟨k + 1, g, cap, h, 0, H, so', sc', by omega, rfl, rfl, rfl, by go_num, S5⟩
                case measure => simp [intOf]; omega
            · have hvd : decide (v = 0) = false := decide_eq_false hv
              have hvb : (v == 0) = false := by simpa using hv
              go_wp2_with fail
              refine (zz_of (fun b => b ≠ g) so 0 sc true v false w2 0 (fun i => H (h + i)) (!false && decide (v = 0)) (fun w0 hb0 => fifo_empty (fun b => b ≠ g) so sc (fun i => H (h + i)) v false w0 (S2.st.below hb0))).mono ?_
              rintro e w3 ⟨⟨so', sc', rfl, hst⟩, b3⟩
              have bel3 := S2.bel.trans (b3.mono S2.bel.size)
              have hist3 := S2.hist.below b3
              have e1 := T1.out _ bel3
              have e2 := T2.out _ bel3
              have e3 := T3.out _ bel3
              have S3 : Sst w1 w3 n (k + 1) g cap H h 0 so' sc' := ⟨bel3, hist3, hst, by omega⟩
              have HT : Hid _ := hist3.tail
              clear S2 l0 l1 l2 b3 bel3 hist3 hst
              by_cases hcap : cap = h
              · rw [if_pos hcap] at HT
                have HC : Hid (cap = h) := hcap
                subst hcap
                go_wp2_with fail
                refine (same_any so' _ 0 sc' _ (fun i => H (cap + i)) w3 (by omega) (.inl rfl) (.inl rfl)).mono ?_
                rintro e w5 ⟨rfl, q5, hw5⟩
                have b5 : Below w3.heap.size w3 w5 := by rw [hw5]; exact below_drew0 _ _
                have S5 := S3.below b5
                clear S3 HT b5 hw5 HC
                go_wp2_with fail
                go_roundw
                case rel => exact ⟨k + 1, g, cap, cap, 0, H, so', sc', by omega, rfl, rfl, rfl, by go_num, S5⟩
                case measure => simp [intOf]; omega
              · rw [if_neg hcap] at HT
                go_wp2_with fail
                refine (same_any so' _ 0 sc' _ (fun i => H (h + i)) w3 (by omega) (.inl rfl) (.inl rfl)).mono ?_
                rintro e w5 ⟨rfl, q5, hw5⟩
                have b5 : Below w3.heap.size w3 w5 := by rw [hw5]; exact below_drew0 _ _
                have S5 := S3.below b5
                clear S3 HT b5 hw5
                go_wp2_with fail
                go_roundw
                case rel => exact ⟨k + 1, g, cap, h, 0, H, so', sc', by omega, rfl, rfl, rfl, by go_num, S5⟩
                case measure => simp [intOf]; omega
        | succ r =>
          cases o with
          | true =>
            by_cases hv : v = H h
            · subst hv
              go_wp2_with fail
              refine (zz_of (fun b => b ≠ g) so (r + 1) sc true (H h) true w2 r (fun i => H (h + (i + 1))) (true && decide ((H h) = H (h + 0))) (fun w0 hb0 => fifo_deq (fun b => b ≠ g) so r sc (fun i => H (h + i)) (H h) true w0 (S2.st.below hb0))).mono ?_
              rintro e w3 ⟨⟨so', sc', rfl, hst⟩, b3⟩
              have bel3 := S2.bel.trans (b3.mono S2.bel.size)
              have hist3 := S2.hist.below b3
              have e1 := T1.out _ bel3
              have e2 := T2.out _ bel3
              have e3 := T3.out _ bel3
              have e4 := hist3.cell (i := h) (by omega)
              have hX : (fun i => H (h + (i + 1))) = (fun i => H (h + 1 + i)) := by funext i; rw [show h + (i + 1) = h + 1 + i by omega]
              rw [hX] at hst
              have hist4 : Hist w3 w1.heap.size g (h + 1 + r) cap H := by rw [show h + 1 + r = h + (r + 1) by omega]; exact hist3
              have S3 : Sst w1 w3 n (k + 1) g cap H (h + 1) r so' sc' := ⟨bel3, hist4, hst, by omega⟩
              have HT : Hid _ := hist4.tail
              have hlen : h + (r + 1) - (h + 1) = r := by omega
              clear S2 l0 l1 l2 b3 bel3 hist3 hst hist4 hX
              by_cases hcap : cap = h + 1
              · have hr0 : r = 0 := by omega
                subst hcap
                subst hr0
                go_wp2_with fail
                go_quiet (fail)
                go_wp2_with fail
                refine (same_any so' _ 0 sc' _ (fun i => H (h + i)) _ (by omega) (.inl rfl) (.inl rfl)).mono ?_
                rintro e w5 ⟨rfl, q5, hw5⟩
                have b5 : Below w3.heap.size w3 w5 := by rw [hw5]; exact below_drewN (below_drew0 _ _) _
                have S5 := S3.below b5
                clear S3 HT b5 hw5
                go_wp2_with fail
                go_roundw
                case rel => exact ⟨k + 1, g, h + 1, h + 1, 0, H, so', sc', by omega, rfl, by go_num, rfl, by go_num, S5⟩
                case measure => simp [intOf]; omega
              · rw [if_neg hcap] at HT
                go_wp2_with fail
                go_quiet (fail)
                go_wp2_with fail
                refine (same_any so' _ r sc' _ (fun i => H (h + 1 + i)) _ (by omega) (S3.st.rd.below (Nat.le_refl _) (below_drew0 _ _)) (Reads.below HT.out (Nat.le_refl _) (below_drew0 _ _))).mono ?_
                rintro e w5 ⟨rfl, q5, hw5⟩
                have b5 : Below w3.heap.size w3 w5 := by rw [hw5]; exact below_drewN (below_drew0 _ _) _
                have S5 := S3.below b5
                clear S3 HT b5 hw5
                go_wp2_with fail
                go_roundw
                case rel => exact ⟨k + 1, g, cap, h + 1, r, H, so', sc', by omega, by rw [show h + 1 + r = h + (r + 1) by omega], by go_num, rfl, by go_num, S5⟩
                case measure => simp [intOf]; omega
            · have hvd : decide (v = H h) = false := decide_eq_false hv
              have hvb : (v == H h) = false := by simpa using hv
              go_wp2_with fail
              refine (zz_of (fun b => b ≠ g) so (r + 1) sc true v true w2 r (fun i => H (h + (i + 1))) (true && decide (v = H (h + 0))) (fun w0 hb0 => fifo_deq (fun b => b ≠ g) so r sc (fun i => H (h + i)) v true w0 (S2.st.below hb0))).mono ?_
              rintro e w3 ⟨⟨so', sc', rfl, hst⟩, b3⟩
              have bel3 := S2.bel.trans (b3.mono S2.bel.size)
              have hist3 := S2.hist.below b3
              have e1 := T1.out _ bel3
              have e2 := T2.out _ bel3
              have e3 := T3.out _ bel3
              have e4 := hist3.cell (i := h) (by omega)
              have hX : (fun i => H (h + (i + 1))) = (fun i => H (h + 1 + i)) := by funext i; rw [show h + (i + 1) = h + 1 + i by omega]
              rw [hX] at hst
              have hist4 : Hist w3 w1.heap.size g (h + 1 + r) cap H := by rw [show h + 1 + r = h + (r + 1) by omega]; exact hist3
              have S3 : Sst w1 w3 n (k + 1) g cap H (h + 1) r so' sc' := ⟨bel3, hist4, hst, by omega⟩
              have HT : Hid _ := hist4.tail
              have hlen : h + (r + 1) - (h + 1) = r := by omega
              clear S2 l0 l1 l2 b3 bel3 hist3 hst hist4 hX
              by_cases hcap : cap = h + 1
              · have hr0 : r = 0 := by omega
                subst hcap
                subst hr0
                go_wp2_with fail
                go_quiet (fail)
                go_wp2_with fail
                refine (same_any so' _ 0 sc' _ (fun i => H (h + i)) _ (by omega) (.inl rfl) (.inl rfl)).mono ?_
                rintro e w5 ⟨rfl, q5, hw5⟩
                have b5 : Below w3.heap.size w3 w5 := by rw [hw5]; exact below_drewN (below_drew0 _ _) _
                have S5 := S3.below b5
                clear S3 HT b5 hw5
                go_wp2_with fail
                go_roundw
                case rel => exact ⟨k + 1, g, h + 1, h + 1, 0, H, so', sc', by omega, rfl, by go_num, rfl, by go_num, S5⟩
                case measure => simp [intOf]; omega
              · rw [if_neg hcap] at HT
                go_wp2_with fail
                go_quiet (fail)
                go_wp2_with fail
                refine (same_any so' _ r sc' _ (fun i => H (h + 1 + i)) _ (by omega) (S3.st.rd.below (Nat.le_refl _) (below_drew0 _ _)) (Reads.below HT.out (Nat.le_refl _) (below_drew0 _ _))).mono ?_
                rintro e w5 ⟨rfl, q5, hw5⟩
                have b5 : Below w3.heap.size w3 w5 := by rw [hw5]; exact below_drewN (below_drew0 _ _) _
                have S5 := S3.below b5
                clear S3 HT b5 hw5
                go_wp2_with fail
                go_roundw
                case rel => exact ⟨k + 1, g, cap, h + 1, r, H, so', sc', by omega, by rw [show h + 1 + r = h + (r + 1) by omega], by go_num, rfl, by go_num, S5⟩
                case measure => simp [intOf]; omega
          | false =>
            go_wp2_with fail
            refine (zz_of (fun b => b ≠ g) so (r + 1) sc true v false w2 r (fun i => H (h + (i + 1))) (false && decide (v = H (h + 0))) (fun w0 hb0 => fifo_deq (fun b => b ≠ g) so r sc (fun i => H (h + i)) v false w0 (S2.st.below hb0))).mono ?_
            rintro e w3 ⟨⟨so', sc', rfl, hst⟩, b3⟩
            have bel3 := S2.bel.trans (b3.mono S2.bel.size)
            have hist3 := S2.hist.below b3
            have e1 := T1.out _ bel3
            have e2 := T2.out _ bel3
            have e3 := T3.out _ bel3
            have e4 := hist3.cell (i := h) (by omega)
            have hX : (fun i => H (h + (i + 1))) = (fun i => H (h + 1 + i)) := by funext i; rw [show h + (i + 1) = h + 1 + i by omega]
            rw [hX] at hst
            have hist4 : Hist w3 w1.heap.size g (h + 1 + r) cap H := by rw [show h + 1 + r = h + (r + 1) by omega]; exact hist3
            have S3 : Sst w1 w3 n (k + 1) g cap H (h + 1) r so' sc' := ⟨bel3, hist4, hst, by omega⟩
            have HT : Hid _ := hist4.tail
            have hlen : h + (r + 1) - (h + 1) = r := by omega
            clear S2 l0 l1 l2 b3 bel3 hist3 hst hist4 hX
            by_cases hcap : cap = h + 1
            · have hr0 : r = 0 := by omega
              subst hcap
              subst hr0
              go_wp2_with fail
              go_quiet (fail)
              go_wp2_with fail
              refine (same_any so' _ 0 sc' _ (fun i => H (h + i)) _ (by omega) (.inl rfl) (.inl rfl)).mono ?_
              rintro e w5 ⟨rfl, q5, hw5⟩
              have b5 : Below w3.heap.size w3 w5 := by rw [hw5]; exact below_drewN (below_drew0 _ _) _
              have S5 := S3.below b5
              clear S3 HT b5 hw5
              go_wp2_with fail
              go_roundw
              case rel => exact ⟨k + 1, g, h + 1, h + 1, 0, H, so', sc', by omega, rfl, by go_num, rfl, by go_num, S5⟩
              case measure => simp [intOf]; omega
            · rw [if_neg hcap] at HT
              go_wp2_with fail
              go_quiet (fail)
              go_wp2_with fail
              refine (same_any so' _ r sc' _ (fun i => H (h + 1 + i)) _ (by omega) (S3.st.rd.below (Nat.le_refl _) (below_drew0 _ _)) (Reads.below HT.out (Nat.le_refl _) (below_drew0 _ _))).mono ?_
              rintro e w5 ⟨rfl, q5, hw5⟩
              have b5 : Below w3.heap.size w3 w5 := by rw [hw5]; exact below_drewN (below_drew0 _ _) _
              have S5 := S3.below b5
              clear S3 HT b5 hw5
              go_wp2_with fail
              go_roundw
              case rel => exact ⟨k + 1, g, cap, h + 1, r, H, so', sc', by omega, by rw [show h + 1 + r = h + (r + 1) by omega], by go_num, rfl, by go_num, S5⟩
              case measure => simp [intOf]; omega
    · have hf := HW.out.trans (S.bel.mono HW.out.size)
      clear R1 R2 R3
      go_wp2_with fail
      go_ret
      exact ⟨rfl, hf⟩

end Go.Proofs.Qxb6618313a
