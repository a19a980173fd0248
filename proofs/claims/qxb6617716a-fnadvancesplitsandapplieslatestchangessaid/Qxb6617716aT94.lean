import Derived.Test.Qxb6617716aBase
namespace Go.Proofs.Qxb6617716a
open Go.RowKit

set_option maxRecDepth 1000000 in
set_option maxHeartbeats 2000000 in
theorem tail94 (W wA : World) (n m a km : Nat) (P : Nat → Bool) (La Lo : Nat → Nat) (C : Chs) (o1 o2 o3 o5 o6 o7 o8 o39 o40 o41 : Option Addr) (rA rB : Nat) (P' : Nat → Bool) (La' Lo' : Nat → Nat)
    (SA : Lst W wA n m a km P La Lo C o1 o2 o3 o5 o6 o7 o8 rA rB P' La' Lo')
    (h39 : Reads wA o39 n (fun i => .bool (P' i))) (h40 : Reads wA o40 n (fun i => .float .f64 (La' i))) (h41 : Reads wA o41 n (fun i => .float .f64 (Lo' i)))
    (u0 u1 u2 u3 u4 u5 u6 u7 u8 u9 u10 u11 u12 u13 u14 u15 u16 u17 u18 u19 u20 u21 u22 u23 u24 u25 u26 u27 u28 u29 u30 u33 u34 u35 u36 u37 u38 u42 u43 u44 u45 u46 u47 u48 u49 u50 u51 u52 u53 u54 u55 u56 u57 u58 u59 u60 u61 u62 u63 u64 u65 u66 u67 u68 u69 u70 u71 u72 u73 u74 u75 u76 u77 u78 u79 u80 u81 u82 u83 u84 u85 u86 u87 u88 u89 u90 u91 u92 u93 u94 u95 u96 u97 u98 u99 u100 u101 u102 u103 u104 u105 u106 u107 u108 u109 u110 u111 u112 u113 u114 u115 u116 u117 u118 u119 u120 u121 u122 u123 u124 u125 u126 u127 u128 u129 u130 u131 u132 u133 u134 u135 u136 u137 u138 u139 u140 u141 u142 u143 u144 u145 u146 u147 u148 u149 u150 u151 u152 u153 u154 u155 u156 u157 u158 u159 u160 u161 u162 u163 u164 u165 u166 u167 u168 u169 u170 u171 u172 u173 u174 u175 u176 u177 u178 u179 u180 u181 u182 u183 u184 u185 u186 u187 u188 u189 u190 u191 u192 u193 u194 u195 u196 u197 u198 u199 u200 u201 u202 u203 u204 u205 u206 u207 u208 u209 u210 u211 u212 u213 u214 u215 u216 u217 u218 u219 u220 u221 u222 u223 u224 u225 u226 u227 u228 u229 u230 u231 u232 u233 u234 u235 u236 u237 u238 u239 u240 u241 u242 u243 u244 u245 u246 u247 u248 u249 u250 u251 u252 u253 u254 u255 u256 u257 u258 u259 u260 u261 u262 u263 u264 u265 u266 u267 u268 u269 u270 u271 u272 u273 u274 u275 u276 u277 u278 u279 u280 u281 u282 u283 u284 u285 u286 u287 u288 u289 u290 u291 u292 u293 u294 u295 u296 u297 u298 u299 u300 u301 u302 u303 u304 u305 u306 u307 u308 u309 u310 u311 u312 u313 u314 u315 u316 u317 u318 u319 u320 u321 u322 u323 u324 u325 u326 u327 u328 u329 u330 u331 u332 u333 u334 u335 u336 u337 u338 u339 u340 u341 u342 u343 u344 u345 u346 u347 u348 u349 u350 u351 u352 u353 u354 u355 u356 u357 u358 u359 u360 u361 u362 u363 u364 u365 u366 u367 u368 u369 u370 u371 u372 u373 u374 u375 u376 u377 u378 u379 u380 u381 u382 u383 u384 u385 u386 u387 u388 u389 u390 u391 u392 u393 u394 u395 u396 u397 : Value) :
    Code.wp Try.prog (suffix 94 (Try.f3.body.getD .skip)) (LawPost W) ⟨#[u0, u1, u2, u3, u4, u5, u6, u7, u8, u9, u10, u11, u12, u13, u14, u15, u16, u17, u18, u19, u20, u21, u22, u23, u24, u25, u26, u27, u28, u29, u30, .pointer (some ⟨rA, 0, none⟩), .pointer (some ⟨rB, 0, none⟩), u33, u34, u35, u36, u37, u38, .slice o39 n n, .slice o40 n n, .slice o41 n n, u42, u43, u44, u45, u46, u47, u48, u49, u50, u51, u52, u53, u54, u55, u56, u57, u58, u59, u60, u61, u62, u63, u64, u65, u66, u67, u68, u69, u70, u71, u72, u73, u74, u75, u76, u77, u78, u79, u80, u81, u82, u83, u84, u85, u86, u87, u88, u89, u90, u91, u92, u93, u94, u95, u96, u97, u98, u99, u100, u101, u102, u103, u104, u105, u106, u107, u108, u109, u110, u111, u112, u113, u114, u115, u116, u117, u118, u119, u120, u121, u122, u123, u124, u125, u126, u127, u128, u129, u130, u131, u132, u133, u134, u135, u136, u137, u138, u139, u140, u141, u142, u143, u144, u145, u146, u147, u148, u149, u150, u151, u152, u153, u154, u155, u156, u157, u158, u159, u160, u161, u162, u163, u164, u165, u166, u167, u168, u169, u170, u171, u172, u173, u174, u175, u176, u177, u178, u179, u180, u181, u182, u183, u184, u185, u186, u187, u188, u189, u190, u191, u192, u193, u194, u195, u196, u197, u198, u199, u200, u201, u202, u203, u204, u205, u206, u207, u208, u209, u210, u211, u212, u213, u214, u215, u216, u217, u218, u219, u220, u221, u222, u223, u224, u225, u226, u227, u228, u229, u230, u231, u232, u233, u234, u235, u236, u237, u238, u239, u240, u241, u242, u243, u244, u245, u246, u247, u248, u249, u250, u251, u252, u253, u254, u255, u256, u257, u258, u259, u260, u261, u262, u263, u264, u265, u266, u267, u268, u269, u270, u271, u272, u273, u274, u275, u276, u277, u278, u279, u280, u281, u282, u283, u284, u285, u286, u287, u288, u289, u290, u291, u292, u293, u294, u295, u296, u297, u298, u299, u300, u301, u302, u303, u304, u305, u306, u307, u308, u309, u310, u311, u312, u313, u314, u315, u316, u317, u318, u319, u320, u321, u322, u323, u324, u325, u326, u327, u328, u329, u330, u331, u332, u333, u334, u335, u336, u337, u338, u339, u340, u341, u342, u343, u344, u345, u346, u347, u348, u349, u350, u351, u352, u353, u354, u355, u356, u357, u358, u359, u360, u361, u362, u363, u364, u365, u366, u367, u368, u369, u370, u371, u372, u373, u374, u375, u376, u377, u378, u379, u380, u381, u382, u383, u384, u385, u386, u387, u388, u389, u390, u391, u392, u393, u394, u395, u396, u397], []⟩ wA := by
  show Code.wp Try.prog (Code.seq _ _) (LawPost W) _ _
  have hn := SA.hn
  obtain ⟨lA, pA, qA, cA, sA, aA, RA⟩ := SA.A
  go_wp2_with fail
  refine (present_any lA rA pA qA cA n m sA aA P' La' Lo' C km wA RA).mono ?_
  rintro e w1 ⟨rfl, hw⟩
  obtain rfl := hw.symm
  clear hw
  go_wp2_with fail
  refine (posLat_any lA rA pA qA cA n m sA aA P' La' Lo' C km wA (by omega) RA).mono ?_
  rintro e w2 ⟨x1, rfl, hx1, b1⟩
  go_wp2_with fail
  refine (posLon_any lA rA pA qA cA n m sA aA P' La' Lo' C km w2 (by omega) (RA.below b1)).mono ?_
  rintro e w3 ⟨x2, rfl, hx2, b2⟩
  have b3 := b1.trans (b2.mono b1.size)
  go_wp2_with fail
  refine (stateIs_same aA x1 x2 o39 o40 o41 n n n n n n n P' La' Lo' w3 (by omega) (RA.reads.below (Nat.le_refl _) b3) (hx1.reads.below (Nat.le_refl _) b2) hx2.reads (h39.below (Nat.le_refl _) b3) (h40.below (Nat.le_refl _) b3) (h41.below (Nat.le_refl _) b3)).mono ?_
  rintro e w4 ⟨rfl, q4, hw4⟩
  have b4 : Below wA.heap.size wA w4 := by rw [hw4]; exact below_drewN b3 q4
  clear hw4 hx1 hx2 b1 b2 b3 RA
  have SB := SA.below b4
  replace h39 := h39.below (Nat.le_refl _) b4
  replace h40 := h40.below (Nat.le_refl _) b4
  replace h41 := h41.below (Nat.le_refl _) b4
  clear SA b4
  generalize w4 = wB at *
  obtain ⟨lB, pB, qB, cB, sB, aB, RB⟩ := SB.B
  go_wp2_with fail
  refine (present_any lB rB pB qB cB n m sB aB P' La' Lo' C km wB RB).mono ?_
  rintro e w1 ⟨rfl, hw⟩
  obtain rfl := hw.symm
  clear hw
  go_wp2_with fail
  refine (posLat_any lB rB pB qB cB n m sB aB P' La' Lo' C km wB (by omega) RB).mono ?_
  rintro e w2 ⟨x1, rfl, hx1, b1⟩
  go_wp2_with fail
  refine (posLon_any lB rB pB qB cB n m sB aB P' La' Lo' C km w2 (by omega) (RB.below b1)).mono ?_
  rintro e w3 ⟨x2, rfl, hx2, b2⟩
  have b3 := b1.trans (b2.mono b1.size)
  go_wp2_with fail
  refine (stateIs_same aB x1 x2 o39 o40 o41 n n n n n n n P' La' Lo' w3 (by omega) (RB.reads.below (Nat.le_refl _) b3) (hx1.reads.below (Nat.le_refl _) b2) hx2.reads (h39.below (Nat.le_refl _) b3) (h40.below (Nat.le_refl _) b3) (h41.below (Nat.le_refl _) b3)).mono ?_
  rintro e w4 ⟨rfl, q4, hw4⟩
  have b4 : Below wB.heap.size wB w4 := by rw [hw4]; exact below_drewN b3 q4
  clear hw4 hx1 hx2 b1 b2 b3 RB
  have SC := SB.below b4
  have hfin := SC.bel
  clear SB SC b4 h39 h40 h41
  go_wp2_with fail
  go_ret
  exact ⟨rfl, hfin⟩

end Go.Proofs.Qxb6617716a
