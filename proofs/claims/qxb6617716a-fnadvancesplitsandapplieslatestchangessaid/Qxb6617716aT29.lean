import Derived.Test.Qxb6617716aT36
namespace Go.Proofs.Qxb6617716a
open Go.RowKit

set_option maxRecDepth 1000000 in
set_option maxHeartbeats 4000000 in
theorem tail29 (w : World) (n0 n m a : Nat) (t1 t2 : Int) (X : Nat → Int) (P : Nat → Bool) (La Lo : Nat → Nat) (C : Chs) (o0 o1 o2 o3 o4 o5 o6 o7 o8 : Option Addr) (c0 c1 c2 c3 c4 c5 c6 c7 c8 : Nat)
    (NN : Nine w n0 n m X P La Lo C o0 o1 o2 o3 o4 o5 o6 o7 o8) (l0 : n0 ≤ 8192) (l1 : n ≤ 8192) (l4 : m ≤ 8192) (ham : a ≤ m)
    (HH : Hid (n0 ≤ c0 ∧ n ≤ c1 ∧ n ≤ c2 ∧ n ≤ c3 ∧ m ≤ c4 ∧ m ≤ c5 ∧ m ≤ c6 ∧ m ≤ c7 ∧ m ≤ c8)) (HZ : Hid ((o0 = none → c0 = 0) ∧ (o1 = none → c1 = 0) ∧ (o2 = none → c2 = 0) ∧ (o3 = none → c3 = 0) ∧ (o4 = none → c4 = 0) ∧ (o5 = none → c5 = 0) ∧ (o6 = none → c6 = 0) ∧ (o7 = none → c7 = 0) ∧ (o8 = none → c8 = 0)))
    (u12 u13 u14 u15 u16 u17 u18 u19 u20 u21 u22 u23 u24 u27 u28 u29 u30 u31 u32 u33 u34 u35 u36 u37 u38 u39 u40 u41 u42 u43 u44 u45 u46 u47 u48 u49 u50 u51 u52 u53 u54 u55 u56 u57 u58 u59 u60 u61 u62 u63 u64 u65 u66 u67 u68 u69 u70 u71 u72 u73 u74 u75 u76 u77 u78 u79 u80 u81 u82 u83 u84 u85 u86 u87 u88 u89 u90 u91 u92 u93 u94 u95 u96 u97 u98 u99 u100 u101 u102 u103 u104 u105 u106 u107 u108 u109 u110 u111 u112 u113 u114 u115 u116 u117 u118 u119 u120 u121 u122 u123 u124 u125 u126 u127 u128 u129 u130 u131 u132 u133 u134 u135 u136 u137 u138 u139 u140 u141 u142 u143 u144 u145 u146 u147 u148 u149 u150 u151 u152 u153 u154 u155 u156 u157 u158 u159 u160 u161 u162 u163 u164 u165 u166 u167 u168 u169 u170 u171 u172 u173 u174 u175 u176 u177 u178 u179 u180 u181 u182 u183 u184 u185 u186 u187 u188 u189 u190 u191 u192 u193 u194 u195 u196 u197 u198 u199 u200 u201 u202 u203 u204 u205 u206 u207 u208 u209 u210 u211 u212 u213 u214 u215 u216 u217 u218 u219 u220 u221 u222 u223 u224 u225 u226 u227 u228 u229 u230 u231 u232 u233 u234 u235 u236 u237 u238 u239 u240 u241 u242 u243 u244 u245 u246 u247 u248 u249 u250 u251 u252 u253 u254 u255 u256 u257 u258 u259 u260 u261 u262 u263 u264 u265 u266 u267 u268 u269 u270 u271 u272 u273 u274 u275 u276 u277 u278 u279 u280 u281 u282 u283 u284 u285 u286 u287 u288 u289 u290 u291 u292 u293 u294 u295 u296 u297 u298 u299 u300 u301 u302 u303 u304 u305 u306 u307 u308 u309 u310 u311 u312 u313 u314 u315 u316 u317 u318 u319 u320 u321 u322 u323 u324 u325 u326 u327 u328 u329 u330 u331 u332 u333 u334 u335 u336 u337 u338 u339 u340 u341 u342 u343 u344 u345 u346 u347 u348 u349 u350 u351 u352 u353 u354 u355 u356 u357 u358 u359 u360 u361 u362 u363 u364 u365 u366 u367 u368 u369 u370 u371 u372 u373 u374 u375 u376 u377 u378 u379 u380 u381 u382 u383 u384 u385 u386 u387 u388 u389 u390 u391 u392 u393 u394 u395 u396 u397 : Value) :
    Code.wp Try.prog (suffix 29 (Try.f3.body.getD .skip)) (LawPost w) ⟨#[.slice o0 n0 c0, .slice o1 n c1, .slice o2 n c2, .slice o3 n c3, .slice o4 m c4, .slice o5 m c5, .slice o6 m c6, .slice o7 m c7, .slice o8 m c8, .int .i64 (a : Int), .int .i64 t1, .int .i64 t2, u12, u13, u14, u15, u16, u17, u18, u19, u20, u21, u22, u23, u24, .int .i64 (n : Int), .int .i64 (m : Int), u27, u28, u29, u30, u31, u32, u33, u34, u35, u36, u37, u38, u39, u40, u41, u42, u43, u44, u45, u46, u47, u48, u49, u50, u51, u52, u53, u54, u55, u56, u57, u58, u59, u60, u61, u62, u63, u64, u65, u66, u67, u68, u69, u70, u71, u72, u73, u74, u75, u76, u77, u78, u79, u80, u81, u82, u83, u84, u85, u86, u87, u88, u89, u90, u91, u92, u93, u94, u95, u96, u97, u98, u99, u100, u101, u102, u103, u104, u105, u106, u107, u108, u109, u110, u111, u112, u113, u114, u115, u116, u117, u118, u119, u120, u121, u122, u123, u124, u125, u126, u127, u128, u129, u130, u131, u132, u133, u134, u135, u136, u137, u138, u139, u140, u141, u142, u143, u144, u145, u146, u147, u148, u149, u150, u151, u152, u153, u154, u155, u156, u157, u158, u159, u160, u161, u162, u163, u164, u165, u166, u167, u168, u169, u170, u171, u172, u173, u174, u175, u176, u177, u178, u179, u180, u181, u182, u183, u184, u185, u186, u187, u188, u189, u190, u191, u192, u193, u194, u195, u196, u197, u198, u199, u200, u201, u202, u203, u204, u205, u206, u207, u208, u209, u210, u211, u212, u213, u214, u215, u216, u217, u218, u219, u220, u221, u222, u223, u224, u225, u226, u227, u228, u229, u230, u231, u232, u233, u234, u235, u236, u237, u238, u239, u240, u241, u242, u243, u244, u245, u246, u247, u248, u249, u250, u251, u252, u253, u254, u255, u256, u257, u258, u259, u260, u261, u262, u263, u264, u265, u266, u267, u268, u269, u270, u271, u272, u273, u274, u275, u276, u277, u278, u279, u280, u281, u282, u283, u284, u285, u286, u287, u288, u289, u290, u291, u292, u293, u294, u295, u296, u297, u298, u299, u300, u301, u302, u303, u304, u305, u306, u307, u308, u309, u310, u311, u312, u313, u314, u315, u316, u317, u318, u319, u320, u321, u322, u323, u324, u325, u326, u327, u328, u329, u330, u331, u332, u333, u334, u335, u336, u337, u338, u339, u340, u341, u342, u343, u344, u345, u346, u347, u348, u349, u350, u351, u352, u353, u354, u355, u356, u357, u358, u359, u360, u361, u362, u363, u364, u365, u366, u367, u368, u369, u370, u371, u372, u373, u374, u375, u376, u377, u378, u379, u380, u381, u382, u383, u384, u385, u386, u387, u388, u389, u390, u391, u392, u393, u394, u395, u396, u397], []⟩ w := by
  show Code.wp Try.prog (Code.seq _ _) (LawPost w) _ _
  go_wp2_with fail
  go_loopw [27] (fun i wr => ∃ k q : Nat, k ≤ m ∧ i = .int .i64 (k : Int) ∧ wr = w.drewN q ∧ Hid (∀ j, j < k → 0 ≤ C.us j ∧ C.us j < n) ∧ Hid (∀ j, j + 1 < k → C.at' j ≤ C.at' (j + 1))) (fun i _ => m - (intOf i).toNat)
  case atStart => exact ⟨0, 0, Nat.zero_le _, rfl, rfl, fun j hj => by omega, fun j hj => by omega⟩
  case round =>
    obtain ⟨k, q, hk, rfl, rfl, HU, HS⟩ := hrel
    by_cases hlt : k < m
    · rcases NN.r4 with h0 | ⟨b4, off4, x4, g4⟩
      · omega
      rcases NN.r5 with h0 | ⟨b5, off5, x5, g5⟩
      · omega
      have e5 : w.cell? ⟨b5, off5 + k, none⟩ = some (.int .i64 (C.us k)) := g5 k hlt
      subst x4 x5
      clear NN g5
      by_cases u0 : 0 ≤ C.us k
      case neg =>
        go_wp2_with fail
        go_ret
        exact ⟨rfl, below_drew0 w q⟩
      by_cases u1 : C.us k < (n : Int)
      case neg =>
        go_wp2_with fail
        go_ret
        exact ⟨rfl, below_drew0 w q⟩
      have HU' : Hid (∀ j, j < k + 1 → 0 ≤ C.us j ∧ C.us j < n) := fun j hj => by
        by_cases e : j = k
        · rw [e]; exact ⟨u0, u1⟩
        · exact HU.out j (by omega)
      by_cases hk0 : k ≤ 0
      · have HS' : Hid (∀ j, j + 1 < k + 1 → C.at' j ≤ C.at' (j + 1)) := fun j hj => by omega
        have hd : decide ((0 : Int) < (k : Int)) = false := decide_eq_false (by omega)
        have hd2 : decide (0 < k) = false := decide_eq_false (by omega)
        clear g4 HU HS
        go_wp2_with fail
        go_quiet (fail)
        go_wp2_with fail
        go_roundw
        case rel => exact ⟨k + 1, q + nq, by omega, by go_num, rfl, HU', HS'⟩
        case measure => simp [intOf]; omega
      · obtain ⟨k, rfl⟩ : ∃ k', k = k' + 1 := ⟨k - 1, by omega⟩
        clear hk0
        have e4 : w.cell? ⟨b4, off4 + k, none⟩ = some (.int .i64 (C.at' k)) := g4 k (by omega)
        have e4' : w.cell? ⟨b4, off4 + (k + 1), none⟩ = some (.int .i64 (C.at' (k + 1))) := g4 (k + 1) hlt
        clear g4 HU
        by_cases s0 : C.at' k ≤ C.at' (k + 1)
        · have HS' : Hid (∀ j, j + 1 < k + 1 + 1 → C.at' j ≤ C.at' (j + 1)) := fun j hj => by
            by_cases e : j = k
            · rw [e]; exact s0
            · exact HS.out j (by omega)
          have hd : decide (C.at' (k + 1) < C.at' k) = false := decide_eq_false (by omega)
          clear HS
          go_wp2_with fail
          go_quiet (fail)
          go_wp2_with fail
          go_roundw
          case rel => exact ⟨k + 1 + 1, q + nq, by omega, by go_num, rfl, HU', HS'⟩
          case measure => simp [intOf]; omega
        · have hd : C.at' (k + 1) < C.at' k := by omega
          clear HS HU' s0
          go_wp2_with fail
          go_quiet (fail)
          go_wp2_with fail
          go_ret
          exact ⟨rfl, below_drewN (below_drew0 w q) nq⟩
    · obtain rfl : k = m := by omega
      have NQ := NN.below (below_drew0 w q)
      rename_i K hK
      have HK : Hid _ := hK
      clear hK NN
      go_wp2_with fail
      obtain ⟨h0, h1, h2, h3, h4, h5, h6, h7, h8⟩ := HH.out
      obtain ⟨z0, z1, z2, z3, z4, z5, z6, z7, z8⟩ := HZ.out
      exact HK.out _ _ (tail36 w _ n0 _ k a t1 t2 X P La Lo C o0 o1 o2 o3 o4 o5 o6 o7 o8 c0 c1 c2 c3 c4 c5 c6 c7 c8 (below_drew0 w q) NQ (by omega) (by omega) (by omega) (by omega) HS.out HU.out h0 h1 h2 h3 h4 h5 h6 h7 h8 z0 z1 z2 z3 z4 z5 z6 z7 z8 _ _ _ _ _ _ _ _ _ _ _ _ _ _ _ _ _ _ _ _ _ _ _ _ _ _ _ _ _ _ _ _ _ _ _ _ _ _ _ _ _ _ _ _ _ _ _ _ _ _ _ _ _ _ _ _ _ _ _ _ _ _ _ _ _ _ _ _ _ _ _ _ _ _ _ _ _ _ _ _ _ _ _ _ _ _ _ _ _ _ _ _ _ _ _ _ _ _ _ _ _ _ _ _ _ _ _ _ _ _ _ _ _ _ _ _ _ _ _ _ _ _ _ _ _ _ _ _ _ _ _ _ _ _ _ _ _ _ _ _ _ _ _ _ _ _ _ _ _ _ _ _ _ _ _ _ _ _ _ _ _ _ _ _ _ _ _ _ _ _ _ _ _ _ _ _ _ _ _ _ _ _ _ _ _ _ _ _ _ _ _ _ _ _ _ _ _ _ _ _ _ _ _ _ _ _ _ _ _ _ _ _ _ _ _ _ _ _ _ _ _ _ _ _ _ _ _ _ _ _ _ _ _ _ _ _ _ _ _ _ _ _ _ _ _ _ _ _ _ _ _ _ _ _ _ _ _ _ _ _ _ _ _ _ _ _ _ _ _ _ _ _ _ _ _ _ _ _ _ _ _ _ _ _ _ _ _ _ _ _ _ _ _ _ _ _ _ _ _ _ _ _ _ _ _ _ _ _ _ _ _ _ _ _ _ _ _ _ _ _ _ _ _ _ _ _ _ _ _ _ _ _ _ _ _ _ _ _ _ _ _ _ _ _ _ _ _ _ _ _ _ _ _ _ _ _ _ _ _ _ _ _ _ _ _ _ _ _ _ _ _ _ _ _ _ _ _ _ _ _ _ _ _ _ _)

end Go.Proofs.Qxb6617716a
