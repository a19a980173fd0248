import Derived.Test.Qxb6617716aT48
namespace Go.Proofs.Qxb6617716a
open Go.RowKit

set_option maxRecDepth 1000000 in
set_option maxHeartbeats 4000000 in
theorem tail36 (W w : World) (n0 n m a : Nat) (t1 t2 : Int) (X : Nat → Int) (P : Nat → Bool) (La Lo : Nat → Nat) (C : Chs) (o0 o1 o2 o3 o4 o5 o6 o7 o8 : Option Addr) (c0 c1 c2 c3 c4 c5 c6 c7 c8 : Nat)
    (hbel : Below W.heap.size W w) (N : Nine w n0 n m X P La Lo C o0 o1 o2 o3 o4 o5 o6 o7 o8) (hn0 : n0 ≤ 8192) (hn : n ≤ 8192) (hm : m ≤ 8192) (ha : a ≤ m) (hs : Plain.Sorted C.at' m) (hub : ∀ i, i < m → 0 ≤ C.us i ∧ C.us i < n)
    (h0 : n0 ≤ c0) (h1 : n ≤ c1) (h2 : n ≤ c2) (h3 : n ≤ c3) (h4 : m ≤ c4) (h5 : m ≤ c5) (h6 : m ≤ c6) (h7 : m ≤ c7) (h8 : m ≤ c8) (z0 : o0 = none → c0 = 0) (z1 : o1 = none → c1 = 0) (z2 : o2 = none → c2 = 0) (z3 : o3 = none → c3 = 0) (z4 : o4 = none → c4 = 0) (z5 : o5 = none → c5 = 0) (z6 : o6 = none → c6 = 0) (z7 : o7 = none → c7 = 0) (z8 : o8 = none → c8 = 0)
    (u12 u13 u14 u15 u16 u17 u18 u19 u20 u21 u22 u23 u24 u26 u27 u28 u29 u30 u31 u32 u33 u34 u35 u36 u37 u38 u39 u40 u41 u42 u43 u44 u45 u46 u47 u48 u49 u50 u51 u52 u53 u54 u55 u56 u57 u58 u59 u60 u61 u62 u63 u64 u65 u66 u67 u68 u69 u70 u71 u72 u73 u74 u75 u76 u77 u78 u79 u80 u81 u82 u83 u84 u85 u86 u87 u88 u89 u90 u91 u92 u93 u94 u95 u96 u97 u98 u99 u100 u101 u102 u103 u104 u105 u106 u107 u108 u109 u110 u111 u112 u113 u114 u115 u116 u117 u118 u119 u120 u121 u122 u123 u124 u125 u126 u127 u128 u129 u130 u131 u132 u133 u134 u135 u136 u137 u138 u139 u140 u141 u142 u143 u144 u145 u146 u147 u148 u149 u150 u151 u152 u153 u154 u155 u156 u157 u158 u159 u160 u161 u162 u163 u164 u165 u166 u167 u168 u169 u170 u171 u172 u173 u174 u175 u176 u177 u178 u179 u180 u181 u182 u183 u184 u185 u186 u187 u188 u189 u190 u191 u192 u193 u194 u195 u196 u197 u198 u199 u200 u201 u202 u203 u204 u205 u206 u207 u208 u209 u210 u211 u212 u213 u214 u215 u216 u217 u218 u219 u220 u221 u222 u223 u224 u225 u226 u227 u228 u229 u230 u231 u232 u233 u234 u235 u236 u237 u238 u239 u240 u241 u242 u243 u244 u245 u246 u247 u248 u249 u250 u251 u252 u253 u254 u255 u256 u257 u258 u259 u260 u261 u262 u263 u264 u265 u266 u267 u268 u269 u270 u271 u272 u273 u274 u275 u276 u277 u278 u279 u280 u281 u282 u283 u284 u285 u286 u287 u288 u289 u290 u291 u292 u293 u294 u295 u296 u297 u298 u299 u300 u301 u302 u303 u304 u305 u306 u307 u308 u309 u310 u311 u312 u313 u314 u315 u316 u317 u318 u319 u320 u321 u322 u323 u324 u325 u326 u327 u328 u329 u330 u331 u332 u333 u334 u335 u336 u337 u338 u339 u340 u341 u342 u343 u344 u345 u346 u347 u348 u349 u350 u351 u352 u353 u354 u355 u356 u357 u358 u359 u360 u361 u362 u363 u364 u365 u366 u367 u368 u369 u370 u371 u372 u373 u374 u375 u376 u377 u378 u379 u380 u381 u382 u383 u384 u385 u386 u387 u388 u389 u390 u391 u392 u393 u394 u395 u396 u397 : Value) :
    Code.wp Try.prog (suffix 36 (Try.f3.body.getD .skip)) (LawPost W) ⟨#[.slice o0 n0 c0, .slice o1 n c1, .slice o2 n c2, .slice o3 n c3, .slice o4 m c4, .slice o5 m c5, .slice o6 m c6, .slice o7 m c7, .slice o8 m c8, .int .i64 (a : Int), .int .i64 t1, .int .i64 t2, u12, u13, u14, u15, u16, u17, u18, u19, u20, u21, u22, u23, u24, .int .i64 (n : Int), u26, u27, u28, u29, u30, u31, u32, u33, u34, u35, u36, u37, u38, u39, u40, u41, u42, u43, u44, u45, u46, u47, u48, u49, u50, u51, u52, u53, u54, u55, u56, u57, u58, u59, u60, u61, u62, u63, u64, u65, u66, u67, u68, u69, u70, u71, u72, u73, u74, u75, u76, u77, u78, u79, u80, u81, u82, u83, u84, u85, u86, u87, u88, u89, u90, u91, u92, u93, u94, u95, u96, u97, u98, u99, u100, u101, u102, u103, u104, u105, u106, u107, u108, u109, u110, u111, u112, u113, u114, u115, u116, u117, u118, u119, u120, u121, u122, u123, u124, u125, u126, u127, u128, u129, u130, u131, u132, u133, u134, u135, u136, u137, u138, u139, u140, u141, u142, u143, u144, u145, u146, u147, u148, u149, u150, u151, u152, u153, u154, u155, u156, u157, u158, u159, u160, u161, u162, u163, u164, u165, u166, u167, u168, u169, u170, u171, u172, u173, u174, u175, u176, u177, u178, u179, u180, u181, u182, u183, u184, u185, u186, u187, u188, u189, u190, u191, u192, u193, u194, u195, u196, u197, u198, u199, u200, u201, u202, u203, u204, u205, u206, u207, u208, u209, u210, u211, u212, u213, u214, u215, u216, u217, u218, u219, u220, u221, u222, u223, u224, u225, u226, u227, u228, u229, u230, u231, u232, u233, u234, u235, u236, u237, u238, u239, u240, u241, u242, u243, u244, u245, u246, u247, u248, u249, u250, u251, u252, u253, u254, u255, u256, u257, u258, u259, u260, u261, u262, u263, u264, u265, u266, u267, u268, u269, u270, u271, u272, u273, u274, u275, u276, u277, u278, u279, u280, u281, u282, u283, u284, u285, u286, u287, u288, u289, u290, u291, u292, u293, u294, u295, u296, u297, u298, u299, u300, u301, u302, u303, u304, u305, u306, u307, u308, u309, u310, u311, u312, u313, u314, u315, u316, u317, u318, u319, u320, u321, u322, u323, u324, u325, u326, u327, u328, u329, u330, u331, u332, u333, u334, u335, u336, u337, u338, u339, u340, u341, u342, u343, u344, u345, u346, u347, u348, u349, u350, u351, u352, u353, u354, u355, u356, u357, u358, u359, u360, u361, u362, u363, u364, u365, u366, u367, u368, u369, u370, u371, u372, u373, u374, u375, u376, u377, u378, u379, u380, u381, u382, u383, u384, u385, u386, u387, u388, u389, u390, u391, u392, u393, u394, u395, u396, u397], []⟩ w := by
  show Code.wp Try.prog (Code.seq _ _) (LawPost W) _ _
  have HUB : Hid (∀ i, i < m → 0 ≤ C.us i ∧ C.us i < n) := hub
  have HS : Hid (Plain.Sorted C.at' m) := hs
  clear hub hs
  go_wp2_with fail
  refine (cloneI64_any o0 n0 c0 X w N.r0 h0 (by omega) z0).mono ?_
  rintro e v1 ⟨x0, rfl, O0, g0⟩
  have b1 := g0
  go_wp2_with fail
  refine (cloneB_any o1 n c1 P v1 (N.r1.below (Nat.le_refl _) b1) h1 (by omega) z1).mono ?_
  rintro e v2 ⟨x1, rfl, O1, g1⟩
  have b2 := b1.trans (g1.mono b1.size)
  go_wp2_with fail
  refine (cloneF_any o2 n c2 La v2 (N.r2.below (Nat.le_refl _) b2) h2 (by omega) z2).mono ?_
  rintro e v3 ⟨x2, rfl, O2, g2⟩
  have b3 := b2.trans (g2.mono b2.size)
  go_wp2_with fail
  refine (cloneF_any o3 n c3 Lo v3 (N.r3.below (Nat.le_refl _) b3) h3 (by omega) z3).mono ?_
  rintro e v4 ⟨x3, rfl, O3, g3⟩
  have b4 := b3.trans (g3.mono b3.size)
  go_wp2_with fail
  refine (cloneI64_any o4 m c4 C.at' v4 (N.r4.below (Nat.le_refl _) b4) h4 (by omega) z4).mono ?_
  rintro e v5 ⟨x4, rfl, O4, g4⟩
  have b5 := b4.trans (g4.mono b4.size)
  go_wp2_with fail
  refine (cloneInt_any o5 m c5 C.us v5 (N.r5.below (Nat.le_refl _) b5) h5 (by omega) z5).mono ?_
  rintro e v6 ⟨x5, rfl, O5, g5⟩
  have b6 := b5.trans (g5.mono b5.size)
  go_wp2_with fail
  refine (cloneB_any o6 m c6 C.lv v6 (N.r6.below (Nat.le_refl _) b6) h6 (by omega) z6).mono ?_
  rintro e v7 ⟨x6, rfl, O6, g6⟩
  have b7 := b6.trans (g6.mono b6.size)
  go_wp2_with fail
  refine (cloneF_any o7 m c7 C.la v7 (N.r7.below (Nat.le_refl _) b7) h7 (by omega) z7).mono ?_
  rintro e v8 ⟨x7, rfl, O7, g7⟩
  have b8 := b7.trans (g7.mono b7.size)
  go_wp2_with fail
  refine (cloneF_any o8 m c8 C.lo v8 (N.r8.below (Nat.le_refl _) b8) h8 (by omega) z8).mono ?_
  rintro e v9 ⟨x8, rfl, O8, g8⟩
  have b9 := b8.trans (g8.mono b8.size)
  have e8 := Below.refl v9.heap.size v9
  have e7 := g8.trans (e8.mono g8.size)
  have e6 := g7.trans (e7.mono g7.size)
  have e5 := g6.trans (e6.mono g6.size)
  have e4 := g5.trans (e5.mono g5.size)
  have e3 := g4.trans (e4.mono g4.size)
  have e2 := g3.trans (e3.mono g3.size)
  have e1 := g2.trans (e2.mono g2.size)
  have e0 := g1.trans (e1.mono g1.size)
  have N9 : Nine v9 n0 n m X P La Lo C x0 x1 x2 x3 x4 x5 x6 x7 x8 :=
    ⟨O0.reads.below (Nat.le_refl _) e0, O1.reads.below (Nat.le_refl _) e1, O2.reads.below (Nat.le_refl _) e2, O3.reads.below (Nat.le_refl _) e3, O4.reads.below (Nat.le_refl _) e4, O5.reads.below (Nat.le_refl _) e5, O6.reads.below (Nat.le_refl _) e6, O7.reads.below (Nat.le_refl _) e7, O8.reads.below (Nat.le_refl _) e8⟩
  have hbf := hbel.trans (b9.mono hbel.size)
  clear g0 O0 e0 b1 h0 z0 g1 O1 e1 b2 h1 z1 g2 O2 e2 b3 h2 z2 g3 O3 e3 b4 h3 z3 g4 O4 e4 b5 h4 z4 g5 O5 e5 b6 h5 z5 g6 O6 e6 b7 h6 z6 g7 O7 e7 b8 h7 z7 g8 O8 e8 b9 h8 z8 N hbel
  go_upto_if 183 with (fail)
  rename_i K hK
  have HK : Hid _ := hK
  clear hK
  by_cases ht : t1 < t2
  · go_wp2_with fail
    exact HK.out _ _ (tail48 W _ n0 n m a t1 t2 t2 X P La Lo C x0 x1 x2 x3 x4 x5 x6 x7 x8 hbf N9 hn0 hn hm ha HS.out HUB.out (.inr ⟨rfl, ht⟩) _ _ _ _ _ _ _ _ _ _ _ _ _ _ _ _ _ _ _ _ _ _ _ _ _ _ _ _ _ _ _ _ _ _ _ _ _ _ _ _ _ _ _ _ _ _ _ _ _ _ _ _ _ _ _ _ _ _ _ _ _ _ _ _ _ _ _ _ _ _ _ _ _ _ _ _ _ _ _ _ _ _ _ _ _ _ _ _ _ _ _ _ _ _ _ _ _ _ _ _ _ _ _ _ _ _ _ _ _ _ _ _ _ _ _ _ _ _ _ _ _ _ _ _ _ _ _ _ _ _ _ _ _ _ _ _ _ _ _ _ _ _ _ _ _ _ _ _ _ _ _ _ _ _ _ _ _ _ _ _ _ _ _ _ _ _ _ _ _ _ _ _ _ _ _ _ _ _ _ _ _ _ _ _ _ _ _ _ _ _ _ _ _ _ _ _ _ _ _ _ _ _ _ _ _ _ _ _ _ _ _ _ _ _ _ _ _ _ _ _ _ _ _ _ _ _ _ _ _ _ _ _ _ _ _ _ _ _ _ _ _ _ _ _ _ _ _ _ _ _ _ _ _ _ _ _ _ _ _ _ _ _ _ _ _ _ _ _ _ _ _ _ _ _ _ _ _ _ _ _ _ _ _ _ _ _ _ _ _ _ _ _ _ _ _ _ _ _ _ _ _ _ _ _ _ _ _ _ _ _ _ _ _ _ _ _ _ _ _ _ _ _ _ _ _ _ _ _ _ _ _ _ _ _ _ _ _ _ _ _ _ _ _ _ _ _ _ _ _ _ _ _ _ _ _ _ _ _ _ _ _ _ _ _ _ _ _ _ _ _ _ _ _ _ _ _ _ _ _ _ _ _ _ _)
  · go_wp2_with fail
    exact HK.out _ _ (tail48 W _ n0 n m a t1 t2 t1 X P La Lo C x0 x1 x2 x3 x4 x5 x6 x7 x8 hbf N9 hn0 hn hm ha HS.out HUB.out (.inl ⟨rfl, by omega⟩) _ _ _ _ _ _ _ _ _ _ _ _ _ _ _ _ _ _ _ _ _ _ _ _ _ _ _ _ _ _ _ _ _ _ _ _ _ _ _ _ _ _ _ _ _ _ _ _ _ _ _ _ _ _ _ _ _ _ _ _ _ _ _ _ _ _ _ _ _ _ _ _ _ _ _ _ _ _ _ _ _ _ _ _ _ _ _ _ _ _ _ _ _ _ _ _ _ _ _ _ _ _ _ _ _ _ _ _ _ _ _ _ _ _ _ _ _ _ _ _ _ _ _ _ _ _ _ _ _ _ _ _ _ _ _ _ _ _ _ _ _ _ _ _ _ _ _ _ _ _ _ _ _ _ _ _ _ _ _ _ _ _ _ _ _ _ _ _ _ _ _ _ _ _ _ _ _ _ _ _ _ _ _ _ _ _ _ _ _ _ _ _ _ _ _ _ _ _ _ _ _ _ _ _ _ _ _ _ _ _ _ _ _ _ _ _ _ _ _ _ _ _ _ _ _ _ _ _ _ _ _ _ _ _ _ _ _ _ _ _ _ _ _ _ _ _ _ _ _ _ _ _ _ _ _ _ _ _ _ _ _ _ _ _ _ _ _ _ _ _ _ _ _ _ _ _ _ _ _ _ _ _ _ _ _ _ _ _ _ _ _ _ _ _ _ _ _ _ _ _ _ _ _ _ _ _ _ _ _ _ _ _ _ _ _ _ _ _ _ _ _ _ _ _ _ _ _ _ _ _ _ _ _ _ _ _ _ _ _ _ _ _ _ _ _ _ _ _ _ _ _ _ _ _ _ _ _ _ _ _ _ _ _ _ _ _ _ _ _ _ _ _ _ _ _ _ _ _ _ _ _ _ _ _)

end Go.Proofs.Qxb6617716a
