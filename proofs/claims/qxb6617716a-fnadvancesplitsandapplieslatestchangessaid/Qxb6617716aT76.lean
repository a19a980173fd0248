import Derived.Test.Qxb6617716aBack
import Derived.Deep.Cut
namespace Go.Proofs.Qxb6617716a
open Go.RowKit

theorem blk_lt {w w0 : World} {b n off : Nat} {f : Nat → Value} {i : Nat} (h : ∀ i, i < n → w0.cell? ⟨b, off + i, none⟩ = some (f i)) (hi : i < n) (hb : Below w0.heap.size w0 w) : b < w0.heap.size ∧ w.cell? ⟨b, off + i, none⟩ = some (f i) := by
  have h1 := World.block_lt_of_cell? w0 _ (h i hi)
  exact ⟨h1, (hb.cell (p := ⟨b, off + i, none⟩) h1).trans (h i hi)⟩

set_option maxRecDepth 1000000 in
set_option maxHeartbeats 4000000 in
theorem tail76 (W w : World) (n m a km D : Nat) (P : Nat → Bool) (La Lo : Nat → Nat) (C : Chs) (o1 o2 o3 o5 o6 o7 o8 : Option Addr) (rA rB : Nat)
    (SL : Lst W w n m a km P La Lo C o1 o2 o3 o5 o6 o7 o8 rA rB (stP C P a D) (stV C C.la La a D) (stV C C.lo Lo a D)) (hD : km = a + D)
    (u0 u4 u10 u11 u12 u13 u14 u15 u16 u17 u18 u19 u20 u21 u22 u23 u24 u26 u27 u28 u29 u33 u34 u35 u36 u37 u38 u39 u40 u41 u42 u43 u44 u45 u46 u47 u48 u49 u50 u51 u52 u53 u54 u55 u56 u57 u58 u59 u60 u61 u62 u63 u64 u65 u66 u67 u68 u69 u70 u71 u72 u73 u74 u75 u76 u77 u78 u79 u80 u81 u82 u83 u84 u85 u86 u87 u88 u89 u90 u91 u92 u93 u94 u95 u96 u97 u98 u99 u100 u101 u102 u103 u104 u105 u106 u107 u108 u109 u110 u111 u112 u113 u114 u115 u116 u117 u118 u119 u120 u121 u122 u123 u124 u125 u126 u127 u128 u129 u130 u131 u132 u133 u134 u135 u136 u137 u138 u139 u140 u141 u142 u143 u144 u145 u146 u147 u148 u149 u150 u151 u152 u153 u154 u155 u156 u157 u158 u159 u160 u161 u162 u163 u164 u165 u166 u167 u168 u169 u170 u171 u172 u173 u174 u175 u176 u177 u178 u179 u180 u181 u182 u183 u184 u185 u186 u187 u188 u189 u190 u191 u192 u193 u194 u195 u196 u197 u198 u199 u200 u201 u202 u203 u204 u205 u206 u207 u208 u209 u210 u211 u212 u213 u214 u215 u216 u217 u218 u219 u220 u221 u222 u223 u224 u225 u226 u227 u228 u229 u230 u231 u232 u233 u234 u235 u236 u237 u238 u239 u240 u241 u242 u243 u244 u245 u246 u247 u248 u249 u250 u251 u252 u253 u254 u255 u256 u257 u258 u259 u260 u261 u262 u263 u264 u265 u266 u267 u268 u269 u270 u271 u272 u273 u274 u275 u276 u277 u278 u279 u280 u281 u282 u283 u284 u285 u286 u287 u288 u289 u290 u291 u292 u293 u294 u295 u296 u297 u298 u299 u300 u301 u302 u303 u304 u305 u306 u307 u308 u309 u310 u311 u312 u313 u314 u315 u316 u317 u318 u319 u320 u321 u322 u323 u324 u325 u326 u327 u328 u329 u330 u331 u332 u333 u334 u335 u336 u337 u338 u339 u340 u341 u342 u343 u344 u345 u346 u347 u348 u349 u350 u351 u352 u353 u354 u355 u356 u357 u358 u359 u360 u361 u362 u363 u364 u365 u366 u367 u368 u369 u370 u371 u372 u373 u374 u375 u376 u377 u378 u379 u380 u381 u382 u383 u384 u385 u386 u387 u388 u389 u390 u391 u392 u393 u394 u395 u396 u397 : Value) :
    Code.wp Try.prog (suffix 76 (Try.f3.body.getD .skip)) (LawPost W) ⟨#[u0, .slice o1 n n, .slice o2 n n, .slice o3 n n, u4, .slice o5 m m, .slice o6 m m, .slice o7 m m, .slice o8 m m, .int .i64 (a : Int), u10, u11, u12, u13, u14, u15, u16, u17, u18, u19, u20, u21, u22, u23, u24, .int .i64 (n : Int), u26, u27, u28, u29, .int .i64 (km : Int), .pointer (some ⟨rA, 0, none⟩), .pointer (some ⟨rB, 0, none⟩), u33, u34, u35, u36, u37, u38, u39, u40, u41, u42, u43, u44, u45, u46, u47, u48, u49, u50, u51, u52, u53, u54, u55, u56, u57, u58, u59, u60, u61, u62, u63, u64, u65, u66, u67, u68, u69, u70, u71, u72, u73, u74, u75, u76, u77, u78, u79, u80, u81, u82, u83, u84, u85, u86, u87, u88, u89, u90, u91, u92, u93, u94, u95, u96, u97, u98, u99, u100, u101, u102, u103, u104, u105, u106, u107, u108, u109, u110, u111, u112, u113, u114, u115, u116, u117, u118, u119, u120, u121, u122, u123, u124, u125, u126, u127, u128, u129, u130, u131, u132, u133, u134, u135, u136, u137, u138, u139, u140, u141, u142, u143, u144, u145, u146, u147, u148, u149, u150, u151, u152, u153, u154, u155, u156, u157, u158, u159, u160, u161, u162, u163, u164, u165, u166, u167, u168, u169, u170, u171, u172, u173, u174, u175, u176, u177, u178, u179, u180, u181, u182, u183, u184, u185, u186, u187, u188, u189, u190, u191, u192, u193, u194, u195, u196, u197, u198, u199, u200, u201, u202, u203, u204, u205, u206, u207, u208, u209, u210, u211, u212, u213, u214, u215, u216, u217, u218, u219, u220, u221, u222, u223, u224, u225, u226, u227, u228, u229, u230, u231, u232, u233, u234, u235, u236, u237, u238, u239, u240, u241, u242, u243, u244, u245, u246, u247, u248, u249, u250, u251, u252, u253, u254, u255, u256, u257, u258, u259, u260, u261, u262, u263, u264, u265, u266, u267, u268, u269, u270, u271, u272, u273, u274, u275, u276, u277, u278, u279, u280, u281, u282, u283, u284, u285, u286, u287, u288, u289, u290, u291, u292, u293, u294, u295, u296, u297, u298, u299, u300, u301, u302, u303, u304, u305, u306, u307, u308, u309, u310, u311, u312, u313, u314, u315, u316, u317, u318, u319, u320, u321, u322, u323, u324, u325, u326, u327, u328, u329, u330, u331, u332, u333, u334, u335, u336, u337, u338, u339, u340, u341, u342, u343, u344, u345, u346, u347, u348, u349, u350, u351, u352, u353, u354, u355, u356, u357, u358, u359, u360, u361, u362, u363, u364, u365, u366, u367, u368, u369, u370, u371, u372, u373, u374, u375, u376, u377, u378, u379, u380, u381, u382, u383, u384, u385, u386, u387, u388, u389, u390, u391, u392, u393, u394, u395, u396, u397], []⟩ w := by
  show Code.wp Try.prog (Code.seq _ _) (LawPost W) _ _
  have hn := SL.hn
  have hm := SL.hm
  have hak := SL.ak
  have hkm := SL.km
  have HUB : Hid (∀ i, i < m → 0 ≤ C.us i ∧ C.us i < n) := SL.ub
  have HD : Hid (km = a + D) := hD
  clear hD
  have hmk := run_make_row' (P := Try.prog) 23 4 (.bool false) 1 Try.underlying23 Try.info4 rfl .i64 .i64 n (by omega) (by omega)
  obtain ⟨lA, pA, qA, cA, sA, aA, RA⟩ := SL.A
  obtain ⟨lB, pB, qB, cB, sB, aB, RB⟩ := SL.B
  go_wp2_with fail
  refine (applied_any lA rA pA qA cA n m sA aA _ _ _ C km w RA).mono ?_
  rintro e w1 ⟨rfl, hw⟩
  obtain rfl := hw.symm
  clear hw
  go_wp2_with fail
  refine (applied_any lB rB pB qB cB n m sB aB _ _ _ C km w RB).mono ?_
  rintro e w1 ⟨rfl, hw⟩
  obtain rfl := hw.symm
  clear hw RA RB
  go_wp2_with fail
  refine (cloneB_any o1 n n P w SL.pr (Nat.le_refl _) (by omega) SL.pr.nil).mono ?_
  rintro e w1 ⟨o39, rfl, O39, g1⟩
  go_wp2_with fail
  refine (cloneF_any o2 n n La w1 (SL.lat.below (Nat.le_refl _) g1) (Nat.le_refl _) (by omega) SL.lat.nil).mono ?_
  rintro e w2 ⟨o40, rfl, O40, g2⟩
  go_wp2_with fail
  refine (cloneF_any o3 n n Lo w2 (SL.lon.below (Nat.le_refl _) (g1.trans (g2.mono g1.size))) (Nat.le_refl _) (by omega) SL.lon.nil).mono ?_
  rintro e w3 ⟨o41, rfl, O41, g3⟩
  have g12 := g1.trans (g2.mono g1.size)
  have g13 := g12.trans (g3.mono g12.size)
  have g23 := g2.trans (g3.mono g2.size)
  by_cases hn0 : n = 0
  · have HN0 : Hid (n = 0) := hn0
    have hm0 : m = 0 := by
      by_cases h : m = 0
      · exact h
      · have := HUB.out 0 (by omega); omega
    have HKM : Hid (km = a) := by show km = a; omega
    clear hn0 hm0
    have hbel : Below w.heap.size w ((w3.alloc (.cells (madeCells #[.bool false] n) 4)).alloc (.cells (madeCells #[.bool false] n) 4)) := (g13.alloc g13.size _).alloc (Nat.le_trans g13.size (by simp)) _
    have SL2 := SL.below hbel
    clear O39 O40 O41 g1 g2 g3 g12 g13 g23 SL hbel
    go_wp2_with fail
    go_loopw [44] (fun i wr => ∃ x : Int, x < (a : Int) ∧ i = .int .i64 x ∧ wr = ((w3.alloc (.cells (madeCells #[.bool false] n) 4)).alloc (.cells (madeCells #[.bool false] n) 4))) (fun _ _ => 0)
    case atStart => exact ⟨_, by have := HKM.out; omega, rfl, rfl⟩
    case round =>
      obtain ⟨x, hx, rfl, rfl⟩ := hrel
      rename_i K hK
      have HK : Hid _ := hK
      clear hK hmk
      go_wp2_with fail
      exact HK.out _ _ (tail94 W _ n m a km P La Lo C o1 o2 o3 o5 o6 o7 o8 o39 o40 o41 rA rB _ _ _ SL2 (.inl HN0.out) (.inl HN0.out) (.inl HN0.out) _ _ _ _ _ _ _ _ _ _ _ _ _ _ _ _ _ _ _ _ _ _ _ _ _ _ _ _ _ _ _ _ _ _ _ _ _ _ _ _ _ _ _ _ _ _ _ _ _ _ _ _ _ _ _ _ _ _ _ _ _ _ _ _ _ _ _ _ _ _ _ _ _ _ _ _ _ _ _ _ _ _ _ _ _ _ _ _ _ _ _ _ _ _ _ _ _ _ _ _ _ _ _ _ _ _ _ _ _ _ _ _ _ _ _ _ _ _ _ _ _ _ _ _ _ _ _ _ _ _ _ _ _ _ _ _ _ _ _ _ _ _ _ _ _ _ _ _ _ _ _ _ _ _ _ _ _ _ _ _ _ _ _ _ _ _ _ _ _ _ _ _ _ _ _ _ _ _ _ _ _ _ _ _ _ _ _ _ _ _ _ _ _ _ _ _ _ _ _ _ _ _ _ _ _ _ _ _ _ _ _ _ _ _ _ _ _ _ _ _ _ _ _ _ _ _ _ _ _ _ _ _ _ _ _ _ _ _ _ _ _ _ _ _ _ _ _ _ _ _ _ _ _ _ _ _ _ _ _ _ _ _ _ _ _ _ _ _ _ _ _ _ _ _ _ _ _ _ _ _ _ _ _ _ _ _ _ _ _ _ _ _ _ _ _ _ _ _ _ _ _ _ _ _ _ _ _ _ _ _ _ _ _ _ _ _ _ _ _ _ _ _ _ _ _ _ _ _ _ _ _ _ _ _ _ _ _ _ _ _ _ _ _ _ _ _ _ _ _ _ _ _ _ _ _ _ _ _ _ _ _ _ _ _ _ _ _ _ _ _ _ _ _ _ _ _ _ _ _ _ _ _ _ _ _ _ _ _ _ _ _ _ _)
  · rcases O39 with h0 | ⟨b1, rfl, k1, R1⟩
    · omega
    rcases O40 with h0 | ⟨b2, rfl, k2, R2⟩
    · omega
    rcases O41 with h0 | ⟨b3, rfl, k3, R3⟩
    · omega
    have l1 := R1.lt
    have l2 := R2.lt
    have l3 := R3.lt
    have BT : Bst w ((w3.alloc (.cells (madeCells #[.bool false] n) 4)).alloc (.cells (madeCells #[.bool false] n) 4)) n b1 b2 b3 w3.heap.size (w3.heap.size + 1) P La Lo (fun _ => false) (fun _ => false) :=
      ⟨(g13.alloc g13.size _).alloc (Nat.le_trans g13.size (by simp)) _, ((R1.of_block (g23.block b1 l1)).alloc _).alloc _, ((R2.of_block (g3.block b2 l2)).alloc _).alloc _, (R3.alloc _).alloc _,
        ((World.rowIs_made w3 (.bool false) n 4).congr fun i _ => rfl).alloc _, by
          have := World.rowIs_made (w3.alloc (.cells (madeCells #[.bool false] n) 4)) (.bool false) n 4
          rw [show (w3.alloc (.cells (madeCells #[.bool false] n) 4)).heap.size = w3.heap.size + 1 by simp] at this
          exact this.congr fun i _ => rfl, k1, by omega, by omega, by omega, by omega⟩
    clear R1 R2 R3 g1 g2 g3 g12 g13 g23 l1 l2 l3 k1 k2 k3
    go_wp2_with fail
    generalize (w3.alloc (.cells (madeCells #[.bool false] n) 4)).alloc (.cells (madeCells #[.bool false] n) 4) = w5 at BT ⊢
    have hb45 : w3.heap.size < w3.heap.size + 1 := by omega
    generalize w3.heap.size + 1 = b5 at BT hb45 ⊢
    generalize w3.heap.size = b4 at BT hb45 ⊢
    clear hb45
    go_loopw [44] (fun i wr => ∃ (j : Nat) (x : Int), x = (a : Int) + j - 1 ∧ i = .int .i64 x ∧ j ≤ D ∧ ∃ (Wp : Nat → Bool) (Wa Wo : Nat → Nat) (s1 s2 : Nat → Bool),
      Hid (Plain.Back C.us (fun _ => true) (fun j => !C.lv j) P a D j s1 Wp) ∧ Hid (Plain.Back C.us (fun j => !C.lv j) C.la La a D j s2 Wa) ∧ Hid (Plain.Back C.us (fun j => !C.lv j) C.lo Lo a D j s2 Wo) ∧
      Bst w wr n b1 b2 b3 b4 b5 Wp Wa Wo s1 s2) (fun i _ => (intOf i + 1 - (a : Int)).toNat)
    case atStart => exact ⟨D, _, by have := HD.out; omega, rfl, Nat.le_refl _, P, La, Lo, _, _, Plain.Back.start _ _ _ _ _ _, Plain.Back.start _ _ _ _ _ _, Plain.Back.start _ _ _ _ _ _, BT⟩
    case round =>
      clear BT hmk
      obtain ⟨j, x, hx, rfl, hjD, Wp, Wa, Wo, s1, s2, HB1, HB2, HB3, BS⟩ := hrel
      cases j with
      | zero =>
        have hxa : x < (a : Int) := by omega
        clear hx
        rename_i K hK
        have HK : Hid _ := hK
        clear hK
        go_wp2_with fail
        exact HK.out _ _ (tail94 W _ n m a km P La Lo C o1 o2 o3 o5 o6 o7 o8 _ _ _ rA rB _ _ _ (SL.below BS.bel) (reads_row (BS.r1.congr fun i _ => congrArg Value.bool (HB1.out.done i))) (reads_row (BS.r2.congr fun i _ => congrArg (Value.float .f64) (HB2.out.done i))) (reads_row (BS.r3.congr fun i _ => congrArg (Value.float .f64) (HB3.out.done i))) _ _ _ _ _ _ _ _ _ _ _ _ _ _ _ _ _ _ _ _ _ _ _ _ _ _ _ _ _ _ _ _ _ _ _ _ _ _ _ _ _ _ _ _ _ _ _ _ _ _ _ _ _ _ _ _ _ _ _ _ _ _ _ _ _ _ _ _ _ _ _ _ _ _ _ _ _ _ _ _ _ _ _ _ _ _ _ _ _ _ _ _ _ _ _ _ _ _ _ _ _ _ _ _ _ _ _ _ _ _ _ _ _ _ _ _ _ _ _ _ _ _ _ _ _ _ _ _ _ _ _ _ _ _ _ _ _ _ _ _ _ _ _ _ _ _ _ _ _ _ _ _ _ _ _ _ _ _ _ _ _ _ _ _ _ _ _ _ _ _ _ _ _ _ _ _ _ _ _ _ _ _ _ _ _ _ _ _ _ _ _ _ _ _ _ _ _ _ _ _ _ _ _ _ _ _ _ _ _ _ _ _ _ _ _ _ _ _ _ _ _ _ _ _ _ _ _ _ _ _ _ _ _ _ _ _ _ _ _ _ _ _ _ _ _ _ _ _ _ _ _ _ _ _ _ _ _ _ _ _ _ _ _ _ _ _ _ _ _ _ _ _ _ _ _ _ _ _ _ _ _ _ _ _ _ _ _ _ _ _ _ _ _ _ _ _ _ _ _ _ _ _ _ _ _ _ _ _ _ _ _ _ _ _ _ _ _ _ _ _ _ _ _ _ _ _ _ _ _ _ _ _ _ _ _ _ _ _ _ _ _ _ _ _ _ _ _ _ _ _ _ _ _ _ _ _ _ _ _ _ _ _ _ _ _ _ _ _ _ _ _ _ _ _ _ _ _ _ _ _ _ _ _ _ _ _ _ _ _ _ _ _ _)
      | succ j =>
        obtain ⟨kk, hkk⟩ : ∃ kk, kk = a + j := ⟨_, rfl⟩
        have HKK : Hid (kk = a + j) := hkk
        obtain rfl : x = (kk : Int) := by omega
        have hklt : kk < m := by have := HD.out; omega
        have hka : a ≤ kk := by omega
        have HNX : Hid ((kk : Int) - 1 = (a : Int) + j - 1) := by show (kk : Int) - 1 = _; omega
        obtain ⟨u, hu⟩ : ∃ u : Nat, C.us kk = (u : Int) := ⟨(C.us kk).toNat, by have := (HUB.out kk hklt).1; omega⟩
        have hun : u < n := by have := (HUB.out kk hklt).2; omega
        have HUU : Hid (C.us kk = (u : Int)) := hu
        rcases SL.us with h0 | ⟨d5, off5, x5, L5⟩
        · omega
        rcases SL.lv with h0 | ⟨d6, off6, x6, L6⟩
        · omega
        rcases SL.la with h0 | ⟨d7, off7, x7, L7⟩
        · omega
        rcases SL.lo with h0 | ⟨d8, off8, x8, L8⟩
        · omega
        have y0 := BS.o0
        have y1 := BS.o1
        have y2 := BS.o2
        have y3 := BS.o3
        have y4 := BS.o4
        obtain ⟨v5, e5⟩ := blk_lt L5 hklt BS.bel
        rw [hu] at e5
        obtain ⟨v6, e6⟩ := blk_lt L6 hklt BS.bel
        have e42 := BS.r4.cell hun
        subst x5 x6 x7 x8
        clear hkk hu hx
        cases h1 : s1 u with
        | true =>
          rw [h1] at e42
          have HBN : Hid _ := HB1.out.again (by rw [← HKK.out]; exact HUU.out) h1
          clear HB1 h1
          obtain ⟨v7, e7⟩ := blk_lt L7 hklt BS.bel
          obtain ⟨v8, e8⟩ := blk_lt L8 hklt BS.bel
          have e43 := BS.r5.cell hun
          clear L5 L6 L7 L8
          cases hlv : C.lv kk with
          | true =>
            rw [hlv] at e6
            have B2 := HB2.out.off (by show (!C.lv (a + j)) = false; rw [← HKK.out, hlv]; rfl)
            have B3 := HB3.out.off (by show (!C.lv (a + j)) = false; rw [← HKK.out, hlv]; rfl)
            have HB2' : Hid _ := B2
            have HB3' : Hid _ := B3
            clear B2 B3 HB2 HB3 hlv
            go_wp2_with fail
            go_roundw
            case rel => exact ⟨j, _, HNX.out, rfl, by omega, _, _, _, _, _, HBN, HB2', HB3', BS⟩
            case measure => simp [intOf]; omega
          | false =>
            rw [hlv] at e6
            have hon : (!C.lv (a + j)) = true := by rw [← HKK.out, hlv]; rfl
            cases h2 : s2 u with
            | true =>
              rw [h2] at e43
              have HB2' : Hid _ := HB2.out.again (by rw [← HKK.out]; exact HUU.out) h2
              have HB3' : Hid _ := HB3.out.again (by rw [← HKK.out]; exact HUU.out) h2
              clear HB2 HB3 hlv h2 hon
              go_wp2_with fail
              go_roundw
              case rel => exact ⟨j, _, HNX.out, rfl, by omega, _, _, _, _, _, HBN, HB2', HB3', BS⟩
              case measure => simp [intOf]; omega
            | false =>
              rw [h2] at e43
              have HB2' : Hid _ := HB2.out.hit (by rw [← HKK.out]; exact HUU.out) h2 hon
              have HB3' : Hid _ := HB3.out.hit (by rw [← HKK.out]; exact HUU.out) h2 hon
              have ST := BS.hit2 u (C.la (a + j)) (C.lo (a + j))
              rw [← HKK.out] at HB2' HB3' ST
              have c40 := BS.r2.cell hun
              have c41 := BS.r3.cell hun
              have z40 := BS.r2.frozen u
              have z41 := BS.r3.frozen u
              have z43 := BS.r5.frozen u
              clear HB2 HB3 hlv h2 hon BS
              go_wp2_with fail
              go_roundw
              case rel => exact ⟨j, _, HNX.out, rfl, by omega, _, _, _, _, _, HBN, HB2', HB3', ST⟩
              case measure => simp [intOf]; omega
        | false =>
          rw [h1] at e42
          have HBN : Hid _ := HB1.out.hit (by rw [← HKK.out]; exact HUU.out) h1 rfl
          have z42 := BS.r4.frozen u
          have z39 := BS.r1.frozen u
          have e39 := BS.r1.cell hun
          have BS2 := BS.hit1 u (!C.lv (a + j))
          rw [← HKK.out] at HBN BS2
          clear HB1 h1 BS
          go_upto_region 90 with (fail)
          clear z42 z39 e39 e42 e5 e6
          generalize (wr.setCell ⟨b4, u, none⟩ (.bool true)).setCell ⟨b1, u, none⟩ (.bool (!C.lv kk)) = wx at BS2 ⊢
          obtain ⟨v5, e5⟩ := blk_lt L5 hklt BS2.bel
          obtain ⟨v6, e6⟩ := blk_lt L6 hklt BS2.bel
          obtain ⟨v7, e7⟩ := blk_lt L7 hklt BS2.bel
          obtain ⟨v8, e8⟩ := blk_lt L8 hklt BS2.bel
          have e43 := BS2.r5.cell hun
          clear L5 L6 L7 L8
          cases hlv : C.lv kk with
          | true =>
            rw [hlv] at e6
            have B2 := HB2.out.off (by show (!C.lv (a + j)) = false; rw [← HKK.out, hlv]; rfl)
            have B3 := HB3.out.off (by show (!C.lv (a + j)) = false; rw [← HKK.out, hlv]; rfl)
            have HB2' : Hid _ := B2
            have HB3' : Hid _ := B3
            clear B2 B3 HB2 HB3 hlv
            go_wp2_with fail
            go_roundw
            case rel => exact ⟨j, _, HNX.out, rfl, by omega, _, _, _, _, _, HBN, HB2', HB3', BS2⟩
            case measure => simp [intOf]; omega
          | false =>
            rw [hlv] at e6
            have hon : (!C.lv (a + j)) = true := by rw [← HKK.out, hlv]; rfl
            cases h2 : s2 u with
            | true =>
              rw [h2] at e43
              have HB2' : Hid _ := HB2.out.again (by rw [← HKK.out]; exact HUU.out) h2
              have HB3' : Hid _ := HB3.out.again (by rw [← HKK.out]; exact HUU.out) h2
              clear HB2 HB3 hlv h2 hon
              go_wp2_with fail
              go_roundw
              case rel => exact ⟨j, _, HNX.out, rfl, by omega, _, _, _, _, _, HBN, HB2', HB3', BS2⟩
              case measure => simp [intOf]; omega
            | false =>
              rw [h2] at e43
              have HB2' : Hid _ := HB2.out.hit (by rw [← HKK.out]; exact HUU.out) h2 hon
              have HB3' : Hid _ := HB3.out.hit (by rw [← HKK.out]; exact HUU.out) h2 hon
              have ST := BS2.hit2 u (C.la (a + j)) (C.lo (a + j))
              rw [← HKK.out] at HB2' HB3' ST
              have c40 := BS2.r2.cell hun
              have c41 := BS2.r3.cell hun
              have z40 := BS2.r2.frozen u
              have z41 := BS2.r3.frozen u
              have z43 := BS2.r5.frozen u
              clear HB2 HB3 hlv h2 hon BS2
              go_wp2_with fail
              go_roundw
              case rel => exact ⟨j, _, HNX.out, rfl, by omega, _, _, _, _, _, HBN, HB2', HB3', ST⟩
              case measure => simp [intOf]; omega

end Go.Proofs.Qxb6617716a
