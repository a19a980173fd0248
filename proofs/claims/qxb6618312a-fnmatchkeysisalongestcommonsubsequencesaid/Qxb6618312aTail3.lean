import Derived.Test.Qxb6618312aLaw2
namespace Go.Proofs.Qxb6618312a
open Go.RowKit Go.Maps

/-- The number of a code's first region. -/
def firstRegion : Code → Option Nat
  | .region id _ _ => some id
  | .seq a _ => firstRegion a
  | .block _ c => firstRegion c
  | _ => none

/-- What stands from the statement on that opens with region r. -/
def suffix (r : Nat) : Code → Code
  | .seq a b => if firstRegion a = some r then .seq a b else suffix r b
  | c => c

/-- The post of the law. -/
abbrev LawPost (w : World) : Exit → Act → World → Prop := bodyPost Try.prog Try.f3 fun e w' => e = Ending.returned (Value.bool true) ∧ Below w.heap.size w w'

/-- The places before the k-th pair. -/
def prevOf (rs : List (Int × Int)) : Nat → Int × Int
  | 0 => (-1, -1)
  | k + 1 => rs.getD k (0, 0)

/-- What is known of the k-th pair that matchKeys hands back. -/
theorem pair_at {A B : List Zid} {ms rs : List (Int × Int)} {t : Nat} {f : Nat → Nat} (hC : Plain.Common A B ms) (hrs : ∀ i, i < t → rs[i]? = ms[f i]?) (hr : Plain.LRes (Plain.live ms) ms.length t f) {k : Nat} (hk : k < t) :
    ∃ (i j : Nat) (z : Zid), rs[k]? = some ((i : Int), (j : Int)) ∧ i < A.length ∧ j < B.length ∧ A[i]? = some z ∧ B[j]? = some z ∧ (prevOf rs k).1 < (i : Int) ∧ (prevOf rs k).2 < (j : Int) := by
  obtain ⟨i, j, hp, hi, hj, he⟩ := hC.sound (f k) _ (List.getElem?_eq_getElem (hr.lt k hk))
  have hm : ms[f k]? = some ((i : Int), (j : Int)) := by rw [List.getElem?_eq_getElem (hr.lt k hk), hp]
  refine ⟨i, j, A[i], by rw [hrs k hk]; exact hm, hi, hj, List.getElem?_eq_getElem hi, by rw [← he]; exact List.getElem?_eq_getElem hi, ?_⟩
  cases k with
  | zero => simp only [prevOf]; omega
  | succ k =>
    have hl := hr.lt k (by omega)
    obtain ⟨i', j', hp', hi', hj', he'⟩ := hC.sound (f k) _ (List.getElem?_eq_getElem hl)
    have hm' : ms[f k]? = some ((i' : Int), (j' : Int)) := by rw [List.getElem?_eq_getElem hl, hp']
    obtain ⟨r1, r2⟩ := hr.rise k hk
    have r3 := hC.rise _ _ _ _ r1 hm' hm
    rw [Plain.live_eq hm, Plain.live_eq hm'] at r2
    have e : prevOf rs (k + 1) = ((i' : Int), (j' : Int)) := by
      show rs.getD k (0, 0) = _
      rw [List.getD, hrs k (by omega), hm']
      rfl
    rw [e]
    exact ⟨r2, r3⟩

set_option maxRecDepth 1000000 in
set_option maxHeartbeats 2000000 in
theorem tail3 (ao : Option Addr) (n ca : Nat) (x2 : Bool) (bo : Option Addr) (m cb : Nat) (x4 : Bool) (A B : List Zid) (w wd : World) (L R : Nat) (mo ro : Option Nat)
    (hZA : ZRow w ao n A) (hZB : ZRow w bo m B) (hAM : AtMap wd mo A) (hZL : ZRow wd (some ⟨L, 0, none⟩) n A) (hZR : ZRow wd (some ⟨R, 0, none⟩) m B) (hbel : Below w.heap.size w wd) (hnd : A.Nodup) (hB : ∀ z ∈ B, OkZ z) (hn : n ≤ 4096) (hm : m ≤ 4096)
    (u1 u4 u6 u7 u8 u9 u10 u11 u12 u13 u14 u15 u16 u17 u19 u21 u23 u25 u26 u27 u28 u29 u30 u31 u32 u33 u34 u35 u36 u37 u38 u39 u40 u41 u42 u43 u44 u45 u46 u47 u48 u49 u50 u51 u52 u53 u54 u55 u56 u57 u58 u59 u60 u61 u62 u63 u64 u65 u66 u67 u68 u69 u70 u71 u72 u73 u74 u75 u76 u77 u78 u79 u80 u81 u82 u83 u84 u85 u86 u87 u88 u89 u90 u91 u92 u93 u94 u95 u96 u97 u98 u99 u100 u101 u102 u103 u104 u105 u106 u107 u108 u109 u110 u111 u112 u113 u114 u115 u116 u117 u118 u119 u120 u121 u122 u123 u124 u125 u126 u127 u128 u129 u130 u131 u132 u133 u134 u135 u136 u137 u138 u139 u140 u141 u142 u143 u144 u145 u146 u147 u148 u149 u150 u151 u152 u153 u154 u155 u156 u157 u158 u159 u160 u161 u162 u163 u164 u165 u166 u167 u168 u169 u170 u171 u172 u173 u174 u175 u176 u177 u178 u179 u180 u181 u182 u183 u184 u185 u186 u187 u188 u189 u190 u191 u192 u193 u194 u195 u196 u197 u198 u199 u200 u201 u202 u203 u204 u205 u206 u207 u208 u209 u210 u211 u212 u213 u214 u215 u216 u217 u218 u219 u220 u221 u222 u223 u224 u225 u226 u227 u228 u229 u230 u231 u232 u233 u234 u235 u236 u237 u238 u239 u240 u241 u242 u243 u244 u245 u246 u247 u248 u249 u250 u251 u252 u253 u254 u255 u256 u257 u258 u259 u260 u261 u262 u263 u264 u265 u266 u267 u268 u269 u270 u271 u272 u273 u274 u275 u276 u277 u278 u279 u280 u281 u282 u283 u284 u285 u286 u287 u288 : Value) :
    Code.wp Try.prog (suffix 51 (Try.f3.body.getD .skip)) (LawPost w) ⟨#[.slice ao n ca, u1, .bool x2, .slice bo m cb, u4, .bool x4, u6, u7, u8, u9, u10, u11, u12, u13, u14, u15, u16, u17, .slice (some ⟨L, 0, none⟩) n n, u19, .map mo, u21, .slice (some ⟨R, 0, none⟩) m m, u23, .map ro, u25, u26, u27, u28, u29, u30, u31, u32, u33, u34, u35, u36, u37, u38, u39, u40, u41, u42, u43, u44, u45, u46, u47, u48, u49, u50, u51, u52, u53, u54, u55, u56, u57, u58, u59, u60, u61, u62, u63, u64, u65, u66, u67, u68, u69, u70, u71, u72, u73, u74, u75, u76, u77, u78, u79, u80, u81, u82, u83, u84, u85, u86, u87, u88, u89, u90, u91, u92, u93, u94, u95, u96, u97, u98, u99, u100, u101, u102, u103, u104, u105, u106, u107, u108, u109, u110, u111, u112, u113, u114, u115, u116, u117, u118, u119, u120, u121, u122, u123, u124, u125, u126, u127, u128, u129, u130, u131, u132, u133, u134, u135, u136, u137, u138, u139, u140, u141, u142, u143, u144, u145, u146, u147, u148, u149, u150, u151, u152, u153, u154, u155, u156, u157, u158, u159, u160, u161, u162, u163, u164, u165, u166, u167, u168, u169, u170, u171, u172, u173, u174, u175, u176, u177, u178, u179, u180, u181, u182, u183, u184, u185, u186, u187, u188, u189, u190, u191, u192, u193, u194, u195, u196, u197, u198, u199, u200, u201, u202, u203, u204, u205, u206, u207, u208, u209, u210, u211, u212, u213, u214, u215, u216, u217, u218, u219, u220, u221, u222, u223, u224, u225, u226, u227, u228, u229, u230, u231, u232, u233, u234, u235, u236, u237, u238, u239, u240, u241, u242, u243, u244, u245, u246, u247, u248, u249, u250, u251, u252, u253, u254, u255, u256, u257, u258, u259, u260, u261, u262, u263, u264, u265, u266, u267, u268, u269, u270, u271, u272, u273, u274, u275, u276, u277, u278, u279, u280, u281, u282, u283, u284, u285, u286, u287, u288], []⟩ wd := by
  show Code.wp Try.prog (Code.seq _ _) (LawPost w) _ _
  have HND : Hid A.Nodup := hnd
  have HB : Hid (∀ z ∈ B, OkZ z) := hB
  clear hnd hB
  go_wp2_with fail
  refine (makeItems_any (some ⟨L, 0, none⟩) n n mo x2 _).mono ?_
  rintro e w1 ⟨rfl, hw1⟩
  have b1 : Below wd.heap.size wd w1 := by rw [hw1]; exact (Below.refl _ _).alloc (Nat.le_refl _) _
  clear hw1
  go_wp2_with fail
  refine (makeItems_any (some ⟨R, 0, none⟩) m m ro x4 _).mono ?_
  rintro e w2 ⟨rfl, hw2⟩
  have b2 : Below w1.heap.size w1 w2 := by rw [hw2]; exact (Below.refl _ _).alloc (Nat.le_refl _) _
  clear hw2
  have b3 := b1.trans (b2.mono b1.size)
  go_wp2_with fail
  refine (zzMatchKeys_any (some ⟨L, 0, none⟩) n n mo x2 (some ⟨R, 0, none⟩) m m ro x4 A B _ (hZL.below b3) (hZR.below b3) (hAM.below b3) HND.out HB.out (by omega) (by omega)).mono ?_
  rintro e w3 ⟨⟨ms, hC, go, gc, t, f, rs, rfl, hMR, hrs, hres⟩, b4⟩
  have b5 := hbel.trans ((b3.trans (b4.mono b3.size)).mono hbel.size)
  have ht : t = Plain.lc A B n m := by
    have := Plain.res_is_lc hC hres
    rw [hZA.1, hZB.1] at this
    exact this
  have htb : t ≤ m := by rw [ht]; exact lc_le A B n m
  have PA : Hid (∀ k, k < t → ∃ (i j : Nat) (z : Zid), rs[k]? = some ((i : Int), (j : Int)) ∧ i < A.length ∧ j < B.length ∧ A[i]? = some z ∧ B[j]? = some z ∧ (prevOf rs k).1 < (i : Int) ∧ (prevOf rs k).2 < (j : Int)) := fun k hk => pair_at hC hrs hres hk
  clear b1 b2 b3 b4 hZL hZR hAM hbel hC hrs hres
  go_wp2_with fail
  refine (lcs_any ao n ca bo m cb A B _ (hZA.below b5) (hZB.below b5) (by omega) (by omega)).mono ?_
  rintro e w4 ⟨rfl, b6⟩
  rw [← ht]
  have hMR4 := hMR.below b6
  have b7 := b5.trans (b6.mono b5.size)
  clear hMR b5 b6 ht
  go_wp2_with fail
  go_loopw [29, 30, 31] (fun vl vr vk wq => ∃ (k : Nat), k ≤ t ∧ vk = .int .i64 k ∧ vl = .int .i64 (prevOf rs k).1 ∧ vr = .int .i64 (prevOf rs k).2 ∧ Below w4.heap.size w4 wq) (fun _ _ k _ => t - (intOf k).toNat)
  case atStart => exact ⟨0, Nat.zero_le _, rfl, rfl, rfl, Below.refl _ _⟩
  case round =>
    obtain ⟨k, hk, rfl, rfl, rfl, hbq⟩ := hrel
    by_cases hlt : k < t
    · obtain ⟨i, j, z, hp, hi, hj, hzA, hzB, hl, hr⟩ := PA.out k hlt
      have hMq := hMR4.below hbq
      have bq := b7.trans (hbq.mono b7.size)
      obtain ⟨hal, ha2⟩ := hZA.below bq
      obtain ⟨hbl, hb2⟩ := hZB.below bq
      rw [hal] at hi
      rw [hbl] at hj
      obtain ⟨hrl, hM2⟩ := hMq
      rcases hM2 with h0 | ⟨gb, goff, hgo, hM2⟩
      · omega
      rcases ha2 with h0 | ⟨ab, aoff, hao, ha2⟩
      · omega
      rcases hb2 with h0 | ⟨bb, boff, hbo, hb2⟩
      · omega
      subst hgo hao hbo
      have m0 := hM2 k _ hp
      have za := ha2 i z hzA
      have zb := hb2 j z hzB
      have hnx : prevOf rs (k + 1) = ((i : Int), (j : Int)) := by show rs.getD k (0, 0) = _; rw [List.getD, hp]; rfl
      have HNX : Hid (prevOf rs (k + 1) = ((i : Int), (j : Int))) := hnx
      generalize prevOf rs k = pv at hl hr ⊢
      obtain ⟨pl, pr⟩ := pv
      simp only at hl hr ⊢
      have d1 : decide ((i : Int) ≤ pl) = false := by simp; omega
      have d2 : decide ((j : Int) ≤ pr) = false := by simp; omega
      have d3 : decide ((n : Int) ≤ (i : Int)) = false := by simp; omega
      have d4 : decide ((m : Int) ≤ (j : Int)) = false := by simp; omega
      have g0 := m0.c0
      have g1 := m0.c1
      simp only at g0 g1
      have M0 : Hid (MAt wr gb (goff + k * 2) ((i : Int), (j : Int))) := m0
      clear m0
      clear hnx hM2 ha2 hb2 hp hzA hzB hal hbl hrl
      go_wp2_with fail
      refine (matchLive_any (i : Int) (j : Int) _).mono ?_
      rintro e w5 ⟨rfl, b8⟩
      have m5 : MAt w5 gb (goff + k * 2) ((i : Int), (j : Int)) := M0.out.of_block (b8.block gb M0.out.lt)
      have za5 := za.of_block (b8.block ab za.lt)
      have zb5 := zb.of_block (b8.block bb zb.lt)
      have h0 := m5.c0
      have h1 := m5.c1
      simp only at h0 h1
      clear m5
      clear g0 g1 za zb
      go_wp2_with fail
      refine (matchResult_any (i : Int) (j : Int) _).mono ?_
      rintro e w6 ⟨rfl, b9⟩
      have za6 := za5.of_block (b9.block ab za5.lt)
      have zb6 := zb5.of_block (b9.block bb zb5.lt)
      have bn := hbq.trans ((b8.trans (b9.mono b8.size)).mono hbq.size)
      obtain ⟨p0, p1, p2, p3⟩ := za6
      obtain ⟨q0, q1, q2, q3⟩ := zb6
      have he := neq25
      have hzz := zeq_true (rfl : z = z)
      clear h0 h1 za5 zb5 b8 b9 hbq bq
      go_wp2_with fail
      go_quiet (fail)
      go_wp2_with fail
      go_roundw
      case rel => exact ⟨k + 1, by omega, by go_num, by rw [HNX.out], by rw [HNX.out], below_drewN bn _⟩
      case measure => simp [intOf]; omega
    · go_wp2_with fail
      go_ret
      exact ⟨rfl, b7.trans (hbq.mono b7.size)⟩

end Go.Proofs.Qxb6618312a
