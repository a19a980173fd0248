import Derived.Test.Qxb6617716aNine
namespace Go.Proofs.Qxb6617716a
open Go.RowKit

set_option maxRecDepth 1000000 in
set_option maxHeartbeats 4000000 in
theorem tail48 (W w : World) (n0 n m a : Nat) (t1 t2 tm : Int) (X : Nat → Int) (P : Nat → Bool) (La Lo : Nat → Nat) (C : Chs) (x0 x1 x2 x3 x4 x5 x6 x7 x8 : Option Addr)
    (hbel : Below W.heap.size W w) (N0 : Nine w n0 n m X P La Lo C x0 x1 x2 x3 x4 x5 x6 x7 x8) (hn0 : n0 ≤ 8192) (hn : n ≤ 8192) (hm : m ≤ 8192) (ha : a ≤ m) (hs : Plain.Sorted C.at' m) (hub : ∀ i, i < m → 0 ≤ C.us i ∧ C.us i < n)
    (htm : (tm = t1 ∧ t2 ≤ t1) ∨ (tm = t2 ∧ t1 < t2))
    (u12 u13 u14 u15 u16 u17 u18 u19 u20 u21 u22 u23 u24 u26 u27 u29 u30 u31 u32 u33 u34 u35 u36 u37 u38 u39 u40 u41 u42 u43 u44 u45 u46 u47 u48 u49 u50 u51 u52 u53 u54 u55 u56 u57 u58 u59 u60 u61 u62 u63 u64 u65 u66 u67 u68 u69 u70 u71 u72 u73 u74 u75 u76 u77 u78 u79 u80 u81 u82 u83 u84 u85 u86 u87 u88 u89 u90 u91 u92 u93 u94 u95 u96 u97 u98 u99 u100 u101 u102 u103 u104 u105 u106 u107 u108 u109 u110 u111 u112 u113 u114 u115 u116 u117 u118 u119 u120 u121 u122 u123 u124 u125 u126 u127 u128 u129 u130 u131 u132 u133 u134 u135 u136 u137 u138 u139 u140 u141 u142 u143 u144 u145 u146 u147 u148 u149 u150 u151 u152 u153 u154 u155 u156 u157 u158 u159 u160 u161 u162 u163 u164 u165 u166 u167 u168 u169 u170 u171 u172 u173 u174 u175 u176 u177 u178 u179 u180 u181 u182 u183 u184 u185 u186 u187 u188 u189 u190 u191 u192 u193 u194 u195 u196 u197 u198 u199 u200 u201 u202 u203 u204 u205 u206 u207 u208 u209 u210 u211 u212 u213 u214 u215 u216 u217 u218 u219 u220 u221 u222 u223 u224 u225 u226 u227 u228 u229 u230 u231 u232 u233 u234 u235 u236 u237 u238 u239 u240 u241 u242 u243 u244 u245 u246 u247 u248 u249 u250 u251 u252 u253 u254 u255 u256 u257 u258 u259 u260 u261 u262 u263 u264 u265 u266 u267 u268 u269 u270 u271 u272 u273 u274 u275 u276 u277 u278 u279 u280 u281 u282 u283 u284 u285 u286 u287 u288 u289 u290 u291 u292 u293 u294 u295 u296 u297 u298 u299 u300 u301 u302 u303 u304 u305 u306 u307 u308 u309 u310 u311 u312 u313 u314 u315 u316 u317 u318 u319 u320 u321 u322 u323 u324 u325 u326 u327 u328 u329 u330 u331 u332 u333 u334 u335 u336 u337 u338 u339 u340 u341 u342 u343 u344 u345 u346 u347 u348 u349 u350 u351 u352 u353 u354 u355 u356 u357 u358 u359 u360 u361 u362 u363 u364 u365 u366 u367 u368 u369 u370 u371 u372 u373 u374 u375 u376 u377 u378 u379 u380 u381 u382 u383 u384 u385 u386 u387 u388 u389 u390 u391 u392 u393 u394 u395 u396 u397 : Value) :
    Code.wp Try.prog (suffix 48 (Try.f3.body.getD .skip)) (LawPost W) ⟨#[.slice x0 n0 n0, .slice x1 n n, .slice x2 n n, .slice x3 n n, .slice x4 m m, .slice x5 m m, .slice x6 m m, .slice x7 m m, .slice x8 m m, .int .i64 (a : Int), .int .i64 t1, .int .i64 t2, u12, u13, u14, u15, u16, u17, u18, u19, u20, u21, u22, u23, u24, .int .i64 (n : Int), u26, u27, .int .i64 tm, u29, u30, u31, u32, u33, u34, u35, u36, u37, u38, u39, u40, u41, u42, u43, u44, u45, u46, u47, u48, u49, u50, u51, u52, u53, u54, u55, u56, u57, u58, u59, u60, u61, u62, u63, u64, u65, u66, u67, u68, u69, u70, u71, u72, u73, u74, u75, u76, u77, u78, u79, u80, u81, u82, u83, u84, u85, u86, u87, u88, u89, u90, u91, u92, u93, u94, u95, u96, u97, u98, u99, u100, u101, u102, u103, u104, u105, u106, u107, u108, u109, u110, u111, u112, u113, u114, u115, u116, u117, u118, u119, u120, u121, u122, u123, u124, u125, u126, u127, u128, u129, u130, u131, u132, u133, u134, u135, u136, u137, u138, u139, u140, u141, u142, u143, u144, u145, u146, u147, u148, u149, u150, u151, u152, u153, u154, u155, u156, u157, u158, u159, u160, u161, u162, u163, u164, u165, u166, u167, u168, u169, u170, u171, u172, u173, u174, u175, u176, u177, u178, u179, u180, u181, u182, u183, u184, u185, u186, u187, u188, u189, u190, u191, u192, u193, u194, u195, u196, u197, u198, u199, u200, u201, u202, u203, u204, u205, u206, u207, u208, u209, u210, u211, u212, u213, u214, u215, u216, u217, u218, u219, u220, u221, u222, u223, u224, u225, u226, u227, u228, u229, u230, u231, u232, u233, u234, u235, u236, u237, u238, u239, u240, u241, u242, u243, u244, u245, u246, u247, u248, u249, u250, u251, u252, u253, u254, u255, u256, u257, u258, u259, u260, u261, u262, u263, u264, u265, u266, u267, u268, u269, u270, u271, u272, u273, u274, u275, u276, u277, u278, u279, u280, u281, u282, u283, u284, u285, u286, u287, u288, u289, u290, u291, u292, u293, u294, u295, u296, u297, u298, u299, u300, u301, u302, u303, u304, u305, u306, u307, u308, u309, u310, u311, u312, u313, u314, u315, u316, u317, u318, u319, u320, u321, u322, u323, u324, u325, u326, u327, u328, u329, u330, u331, u332, u333, u334, u335, u336, u337, u338, u339, u340, u341, u342, u343, u344, u345, u346, u347, u348, u349, u350, u351, u352, u353, u354, u355, u356, u357, u358, u359, u360, u361, u362, u363, u364, u365, u366, u367, u368, u369, u370, u371, u372, u373, u374, u375, u376, u377, u378, u379, u380, u381, u382, u383, u384, u385, u386, u387, u388, u389, u390, u391, u392, u393, u394, u395, u396, u397], []⟩ w := by
  show Code.wp Try.prog (Code.seq _ _) (LawPost W) _ _
  have HUB : Hid (∀ i, i < m → 0 ≤ C.us i ∧ C.us i < n) := hub
  have HS : Hid (Plain.Sorted C.at' m) := hs
  have HT : Hid ((tm = t1 ∧ t2 ≤ t1) ∨ (tm = t2 ∧ t1 < t2)) := htm
  clear hub hs htm
  go_wp2_with fail
  refine (reach_any x4 m m a C.at' t1 w N0.r4 (by omega) ha).mono ?_
  rintro e wq ⟨he, hw⟩
  obtain rfl := hw.symm
  clear hw
  have he' : e = .returned (.int .i64 (Plain.reach C.at' m a t1 : Int)) := he
  subst he'
  clear he
  obtain ⟨k1, hk1⟩ : ∃ k1, k1 = Plain.reach C.at' m a t1 := ⟨_, rfl⟩
  rw [← hk1]
  have HK1 : Hid (k1 = Plain.reach C.at' m a t1) := hk1
  clear hk1
  go_wp2_with fail
  refine (reach_any x4 m m a C.at' tm w N0.r4 (by omega) ha).mono ?_
  rintro e wq ⟨he, hw⟩
  obtain rfl := hw.symm
  clear hw
  have he' : e = .returned (.int .i64 (Plain.reach C.at' m a tm : Int)) := he
  subst he'
  clear he
  obtain ⟨km, hkm⟩ : ∃ km, km = Plain.reach C.at' m a tm := ⟨_, rfl⟩
  rw [← hkm]
  have HKM : Hid (km = Plain.reach C.at' m a tm) := hkm
  clear hkm
  go_wp2_with fail
  refine (cloneI64_any x0 n0 n0 X w N0.r0 (Nat.le_refl _) (by omega) N0.r0.nil).mono ?_
  rintro e w1 ⟨y0A, rfl, _, g1A⟩
  have N1A := N0.below g1A
  go_wp2_with fail
  refine (cloneB_any x1 n n P w1 N1A.r1 (Nat.le_refl _) (by omega) N1A.r1.nil).mono ?_
  rintro e w2 ⟨y1A, rfl, OA, g2A⟩
  have N2A := N1A.below g2A
  go_wp2_with fail
  refine (newReplay_any y0A y1A x2 x3 x4 x5 x6 x7 x8 n0 n m n0 n n m m m m m a w1.heap.size P La Lo C w2 (by omega) (by omega) OA N2A.r2 N2A.r3 N2A.r4 N2A.r5 N2A.r6 N2A.r7 N2A.r8 g2A.size).mono ?_
  rintro e w3 ⟨⟨rA, pA, qA, cA, sA, aA, rfl, RA⟩, g3A⟩
  have N3A := N2A.below g3A
  go_wp2_with fail
  refine (cloneI64_any x0 n0 n0 X w3 N3A.r0 (Nat.le_refl _) (by omega) N3A.r0.nil).mono ?_
  rintro e w4 ⟨y0B, rfl, _, g1B⟩
  have N1B := N3A.below g1B
  go_wp2_with fail
  refine (cloneB_any x1 n n P w4 N1B.r1 (Nat.le_refl _) (by omega) N1B.r1.nil).mono ?_
  rintro e w5 ⟨y1B, rfl, OB, g2B⟩
  have N2B := N1B.below g2B
  go_wp2_with fail
  refine (newReplay_any y0B y1B x2 x3 x4 x5 x6 x7 x8 n0 n m n0 n n m m m m m a w4.heap.size P La Lo C w5 (by omega) (by omega) OB N2B.r2 N2B.r3 N2B.r4 N2B.r5 N2B.r6 N2B.r7 N2B.r8 g2B.size).mono ?_
  rintro e w6 ⟨⟨rB, pB, qB, cB, sB, aB, rfl, RB⟩, g3B⟩
  have N3B := N2B.below g3B
  have G03 := (g1A.trans (g2A.mono g1A.size)).trans (g3A.mono (Nat.le_trans g1A.size g2A.size))
  have G36 := (g1B.trans (g2B.mono g1B.size)).trans (g3B.mono (Nat.le_trans g1B.size g2B.size))
  have G06 := G03.trans (G36.mono G03.size)
  have z1 := g1A.size
  have z2 := g2A.size
  have z3 := g3A.size
  have z4 := g1B.size
  have z5 := g2B.size
  have z6 := g3B.size
  have RA6 := RA.below G36
  have hrA := RA.lt
  have hrB := RB.lt
  have hqB : w4.heap.size ≤ rB := by have h1 := RB.oq; have h2 := RB.oc; have h3 := RB.orr; omega
  clear N1A N2A N3A N1B N2B N3B OA OB RA G03 G36 g1A g2A g3A g1B g2B g3B
  go_wp2_with fail
  refine (advance_any w1.heap.size rA pA qA cA n m sA aA P La Lo C a t1 w6 (by omega) ha HUB.out RA6).mono ?_
  rintro e w7 ⟨d1, o33, c33, rfl, A33, st1, RA7, ap1⟩
  have z7 := ap1.size
  have RB7 := RB.carry (fun b h1 _ hb => ap1.block b hb (.inr (by omega)))
  have HST1 : Hid (Plain.Stops C.at' m a t1 (a + d1)) := st1
  have HI1 := st1.hi
  clear st1 RA6 RB
  go_wp2_with fail
  refine (advance_any w1.heap.size rA pA qA cA n m sA aA _ _ _ C (a + d1) t2 w7 (by omega) HI1 HUB.out RA7).mono ?_
  rintro e w8 ⟨d2, o34, c34, rfl, A34, st2, RA8, ap2⟩
  have z8 := ap2.size
  have RB8 := RB7.carry (fun b h1 _ hb => ap2.block b hb (.inr (by omega)))
  have HST2 : Hid (Plain.Stops C.at' m (a + d1) t2 (a + d1 + d2)) := st2
  have HI2 := st2.hi
  clear st2 RA7 RB7
  go_upto_region 54 with (fail)
  rename_i K hK
  have HK : Hid _ := hK
  clear hK
  go_wp2_with fail
  refine (advance_any w4.heap.size rB pB qB cB n m sB aB P La Lo C a tm w8 (by omega) ha HUB.out RB8).mono ?_
  rintro e w9 ⟨D, o35, c35, rfl, A35, st3, RB9, ap3⟩
  have z9 := ap3.size
  have RA9 := RA8.carry (fun b _ h2 hb => ap3.block b hb (.inl (by omega)))
  have HST3 : Hid (Plain.Stops C.at' m a tm (a + D)) := st3
  have HI3 := st3.hi
  clear st3 RA8 RB8
  have G67 : Below w.heap.size w6 w7 := ap1.below (by omega) (by omega)
  have G78 : Below w.heap.size w7 w8 := ap2.below (by omega) (by omega)
  have G89 : Below w.heap.size w8 w9 := ap3.below (by omega) (by omega)
  have G09 := ((G06.trans G67).trans G78).trans G89
  have N9 := N0.below G09
  have E1 : a + d1 = k1 := by rw [HK1.out]; exact HST1.out.reach HS.out
  have E3 : a + D = km := by rw [HKM.out]; exact HST3.out.reach HS.out
  have E2 : d1 + d2 = D := by
    have h1 := HST2.out.reach HS.out
    rw [HST1.out.reach HS.out, Plain.reach_two C.at' m a t1 t2 tm HT.out, ← HKM.out] at h1
    have h2 := HST1.out.reach HS.out
    omega
  have B33 := ((A33.apart ap2 (by omega)).apart ap3 (by omega)).reads
  have B34 := (A34.apart ap3 (by omega)).reads
  have B35 := A35.reads
  have q1 : stP C (stP C P a d1) (a + d1) d2 = stP C P a D := by rw [← E2]; exact Plain.app_app _ _ _ _ _ _ _
  have q2 : stV C C.la (stV C C.la La a d1) (a + d1) d2 = stV C C.la La a D := by rw [← E2]; exact Plain.app_app _ _ _ _ _ _ _
  have q3 : stV C C.lo (stV C C.lo Lo a d1) (a + d1) d2 = stV C C.lo Lo a D := by rw [← E2]; exact Plain.app_app _ _ _ _ _ _ _
  rw [q1, q2, q3, show a + d1 + d2 = km by omega] at RA9
  rw [E3] at RB9
  have LS : Lst W w9 n m a km P La Lo C x1 x2 x3 x5 x6 x7 x8 rA rB (stP C P a D) (stV C C.la La a D) (stV C C.lo Lo a D) :=
    ⟨hbel.trans (G09.mono hbel.size), N9.r1, N9.r2, N9.r3, N9.r5, N9.r6, N9.r7, N9.r8, ⟨_, _, _, _, _, _, RA9⟩, ⟨_, _, _, _, _, _, RB9⟩, by omega, by omega, hn, hm, HUB.out⟩
  clear q1 q2 q3 RA9 RB9 N9 A33 A34 A35 N0
  have HE : Hid (km = a + D) := E3.symm
  have hx1 : k1 ≤ a + d1 := by omega
  have hx2 : a + d1 ≤ k1 := by omega
  have hx3 : D ≤ d1 + d2 := by omega
  have hx4 : d1 + d2 ≤ D := by omega
  clear E1 E2 E3
  go_wp2_with fail
  exact HK.out _ _ (tail55 W _ n m a km D d1 d2 c33 c34 c35 P La Lo C x1 x2 x3 x5 x6 x7 x8 o33 o34 o35 rA rB LS HE.out B34 B35 hx3 hx4 k1 hx1 hx2 B33 _ _ _ _ _ _ _ _ _ _ _ _ _ _ _ _ _ _ _ _ _ _ _ _ _ _ _ _ _ _ _ _ _ _ _ _ _ _ _ _ _ _ _ _ _ _ _ _ _ _ _ _ _ _ _ _ _ _ _ _ _ _ _ _ _ _ _ _ _ _ _ _ _ _ _ _ _ _ _ _ _ _ _ _ _ _ _ _ _ _ _ _ _ _ _ _ _ _ _ _ _ _ _ _ _ _ _ _ _ _ _ _ _ _ _ _ _ _ _ _ _ _ _ _ _ _ _ _ _ _ _ _ _ _ _ _ _ _ _ _ _ _ _ _ _ _ _ _ _ _ _ _ _ _ _ _ _ _ _ _ _ _ _ _ _ _ _ _ _ _ _ _ _ _ _ _ _ _ _ _ _ _ _ _ _ _ _ _ _ _ _ _ _ _ _ _ _ _ _ _ _ _ _ _ _ _ _ _ _ _ _ _ _ _ _ _ _ _ _ _ _ _ _ _ _ _ _ _ _ _ _ _ _ _ _ _ _ _ _ _ _ _ _ _ _ _ _ _ _ _ _ _ _ _ _ _ _ _ _ _ _ _ _ _ _ _ _ _ _ _ _ _ _ _ _ _ _ _ _ _ _ _ _ _ _ _ _ _ _ _ _ _ _ _ _ _ _ _ _ _ _ _ _ _ _ _ _ _ _ _ _ _ _ _ _ _ _ _ _ _ _ _ _ _ _ _ _ _ _ _ _ _ _ _ _ _ _ _ _ _ _ _ _ _ _ _ _ _ _ _ _ _ _ _ _ _ _ _ _ _ _ _ _ _ _ _ _ _ _ _ _ _ _ _ _ _ _ _ _ _ _ _)

end Go.Proofs.Qxb6617716a
