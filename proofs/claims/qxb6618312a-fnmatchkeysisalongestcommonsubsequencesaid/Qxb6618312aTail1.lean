import Derived.Test.Qxb6618312aTail2
namespace Go.Proofs.Qxb6618312a
open Go.RowKit Go.Maps

set_option maxRecDepth 1000000 in
set_option maxHeartbeats 2000000 in
theorem tail1 (ao : Option Addr) (n ca : Nat) (x1 x2 : Bool) (bo : Option Addr) (m cb : Nat) (x3 x4 : Bool) (A B : List Zid) (w wc : World)
    (hZA : ZRow w ao n A) (hZB : ZRow w bo m B) (hbel : Below w.heap.size w wc) (hnd : A.Nodup) (hA : ∀ z ∈ A, OkZ z) (hB : ∀ z ∈ B, OkZ z) (hn : n ≤ 4096) (hm : m ≤ 4096)
    (u6 u7 u8 u9 u10 u11 u12 u13 u14 u15 u16 u17 u18 u19 u20 u21 u22 u23 u24 u25 u26 u27 u28 u29 u30 u31 u32 u33 u34 u35 u36 u37 u38 u39 u40 u41 u42 u43 u44 u45 u46 u47 u48 u49 u50 u51 u52 u53 u54 u55 u56 u57 u58 u59 u60 u61 u62 u63 u64 u65 u66 u67 u68 u69 u70 u71 u72 u73 u74 u75 u76 u77 u78 u79 u80 u81 u82 u83 u84 u85 u86 u87 u88 u89 u90 u91 u92 u93 u94 u95 u96 u97 u98 u99 u100 u101 u102 u103 u104 u105 u106 u107 u108 u109 u110 u111 u112 u113 u114 u115 u116 u117 u118 u119 u120 u121 u122 u123 u124 u125 u126 u127 u128 u129 u130 u131 u132 u133 u134 u135 u136 u137 u138 u139 u140 u141 u142 u143 u144 u145 u146 u147 u148 u149 u150 u151 u152 u153 u154 u155 u156 u157 u158 u159 u160 u161 u162 u163 u164 u165 u166 u167 u168 u169 u170 u171 u172 u173 u174 u175 u176 u177 u178 u179 u180 u181 u182 u183 u184 u185 u186 u187 u188 u189 u190 u191 u192 u193 u194 u195 u196 u197 u198 u199 u200 u201 u202 u203 u204 u205 u206 u207 u208 u209 u210 u211 u212 u213 u214 u215 u216 u217 u218 u219 u220 u221 u222 u223 u224 u225 u226 u227 u228 u229 u230 u231 u232 u233 u234 u235 u236 u237 u238 u239 u240 u241 u242 u243 u244 u245 u246 u247 u248 u249 u250 u251 u252 u253 u254 u255 u256 u257 u258 u259 u260 u261 u262 u263 u264 u265 u266 u267 u268 u269 u270 u271 u272 u273 u274 u275 u276 u277 u278 u279 u280 u281 u282 u283 u284 u285 u286 u287 u288 : Value) :
    Code.wp Try.prog (suffix 25 (Try.f3.body.getD .skip)) (LawPost w) ⟨#[.slice ao n ca, .bool x1, .bool x2, .slice bo m cb, .bool x3, .bool x4, u6, u7, u8, u9, u10, u11, u12, u13, u14, u15, u16, u17, u18, u19, u20, u21, u22, u23, u24, u25, u26, u27, u28, u29, u30, u31, u32, u33, u34, u35, u36, u37, u38, u39, u40, u41, u42, u43, u44, u45, u46, u47, u48, u49, u50, u51, u52, u53, u54, u55, u56, u57, u58, u59, u60, u61, u62, u63, u64, u65, u66, u67, u68, u69, u70, u71, u72, u73, u74, u75, u76, u77, u78, u79, u80, u81, u82, u83, u84, u85, u86, u87, u88, u89, u90, u91, u92, u93, u94, u95, u96, u97, u98, u99, u100, u101, u102, u103, u104, u105, u106, u107, u108, u109, u110, u111, u112, u113, u114, u115, u116, u117, u118, u119, u120, u121, u122, u123, u124, u125, u126, u127, u128, u129, u130, u131, u132, u133, u134, u135, u136, u137, u138, u139, u140, u141, u142, u143, u144, u145, u146, u147, u148, u149, u150, u151, u152, u153, u154, u155, u156, u157, u158, u159, u160, u161, u162, u163, u164, u165, u166, u167, u168, u169, u170, u171, u172, u173, u174, u175, u176, u177, u178, u179, u180, u181, u182, u183, u184, u185, u186, u187, u188, u189, u190, u191, u192, u193, u194, u195, u196, u197, u198, u199, u200, u201, u202, u203, u204, u205, u206, u207, u208, u209, u210, u211, u212, u213, u214, u215, u216, u217, u218, u219, u220, u221, u222, u223, u224, u225, u226, u227, u228, u229, u230, u231, u232, u233, u234, u235, u236, u237, u238, u239, u240, u241, u242, u243, u244, u245, u246, u247, u248, u249, u250, u251, u252, u253, u254, u255, u256, u257, u258, u259, u260, u261, u262, u263, u264, u265, u266, u267, u268, u269, u270, u271, u272, u273, u274, u275, u276, u277, u278, u279, u280, u281, u282, u283, u284, u285, u286, u287, u288], []⟩ wc := by
  show Code.wp Try.prog (Code.seq _ _) (LawPost w) _ _
  have HND : Hid A.Nodup := hnd
  have HA : Hid (∀ z ∈ A, OkZ z) := hA
  have HB : Hid (∀ z ∈ B, OkZ z) := hB
  have HZA : Hid (ZRow w ao n A) := hZA
  have HZB : Hid (ZRow w bo m B) := hZB
  obtain ⟨hal, ha1⟩ := hZA
  have HAL : Hid (A.length = n) := hal
  clear hnd hA hB hZB hal
  have hmk := make31 n (by omega)
  have R0 := idcell_made wc A n
  have L0 := (Below.refl wc.heap.size wc).alloc (Nat.le_refl _) (.cells (madeCells #[.string ⟨#[]⟩, .bool false, .string ⟨#[]⟩, .int .i64 0] (n * 4)) 31)
  have hR := hbel.size
  go_wp2_with fail
  generalize wc.alloc (.cells (madeCells #[.string ⟨#[]⟩, .bool false, .string ⟨#[]⟩, .int .i64 0] (n * 4)) 31) = w8 at R0 L0 ⊢
  clear hmk
  go_loopw [19] (fun i wq => ∃ (k : Nat), k ≤ n ∧ i = .int .i64 k ∧ wq.rowIs wc.heap.size 31 (n * 4) (idcell A k) ∧ Below wc.heap.size wc wq) (fun i _ => n - (intOf i).toNat)
  case atStart => exact ⟨0, Nat.zero_le _, rfl, R0, L0⟩
  case round =>
    clear R0 L0
    obtain ⟨k4, hk, rfl, hrow, hbq⟩ := hrel
    by_cases hlt : k4 < n
    · rcases ha1 with h0 | ⟨b, off, rfl, ha1⟩
      · omega
      obtain ⟨z, hz⟩ : ∃ z, A[k4]? = some z := ⟨_, List.getElem?_eq_getElem (by rw [HAL.out]; omega)⟩
      have za := ((ha1 k4 z hz).of_block (hbel.block b (ha1 k4 z hz).lt)).of_block (hbq.block b (by have := (ha1 k4 z hz).lt; omega))
      have hbb := za.lt
      have c0 := za.c0
      have c1 := za.c1
      have c2 := za.c2'
      have c3 := za.c3'
      have hLlt := hrow.lt
      have HZ : Hid (A[k4]? = some z) := hz
      have hbL : b ≠ wc.heap.size := by have := (ha1 k4 z hz).lt; omega
      have hfar := fun (W : World) (o p : Nat) (v : Value) => cell_far (w := W) (o := o) (p := p) (v := v) hbL
      clear ha1 hz
      go_wp2_with fail
      go_region_held3 (fun w' => w'.cell? ⟨b, off + k4 * 4, none⟩ = some (.string z.1) ∧ w'.cell? ⟨b, off + k4 * 4 + 1, none⟩ = some (.bool z.2.1) ∧ w'.cell? ⟨b, off + k4 * 4 + 2, none⟩ = some (.string z.2.2.1) ∧ w'.cell? ⟨b, off + k4 * 4 + 3, none⟩ = some (.int .i64 z.2.2.2)) (go_keep) (first | (go_at_call 5; refine (makeID_below _ _ _ _ _).mono ?_; rintro e w6 ⟨rfl, hb6⟩; obtain ⟨y0, y1, y2, y3, g0, g1, g2, g3, f0, f1, f2, f3, hrow6, hb7⟩ := made_facts hrow za hbq hb6 hlt; clear hb6))
      clear c0 c1 c2 c3 hfar
      go_wp2_with fail
      go_roundw
      case rel => exact ⟨k4 + 1, by omega, by go_num, idcell_step hrow6 HZ.out, (((hb7.setCell (p := ⟨wc.heap.size, k4 * 4, none⟩) (Nat.le_refl _) _).setCell (p := ⟨wc.heap.size, k4 * 4 + 1, none⟩) (Nat.le_refl _) _).setCell (p := ⟨wc.heap.size, k4 * 4 + 2, none⟩) (Nat.le_refl _) _).setCell (p := ⟨wc.heap.size, k4 * 4 + 3, none⟩) (Nat.le_refl _) _⟩
      case measure => simp [intOf]; omega
    · obtain rfl : n = k4 := by omega
      have ZL := idcell_row HAL.out hrow
      have BB := hbel.trans (hbq.mono hbel.size)
      have hLlt := hrow.lt
      clear hrow hk hbq hbel ha1
      go_upto_if 151 with (fail)
      rename_i K hK
      have HK : Hid _ := hK
      clear hK
      cases x1 with
      | false =>
        go_wp2_with fail
        exact HK.out _ _ (tail2 ao n ca x2 bo m cb x3 x4 A B w _ _ none HZA.out HZB.out (.inl rfl) ZL BB HND.out HB.out hn hm _ _ _ _ _ _ _ _ _ _ _ _ _ _ _ _ _ _ _ _ _ _ _ _ _ _ _ _ _ _ _ _ _ _ _ _ _ _ _ _ _ _ _ _ _ _ _ _ _ _ _ _ _ _ _ _ _ _ _ _ _ _ _ _ _ _ _ _ _ _ _ _ _ _ _ _ _ _ _ _ _ _ _ _ _ _ _ _ _ _ _ _ _ _ _ _ _ _ _ _ _ _ _ _ _ _ _ _ _ _ _ _ _ _ _ _ _ _ _ _ _ _ _ _ _ _ _ _ _ _ _ _ _ _ _ _ _ _ _ _ _ _ _ _ _ _ _ _ _ _ _ _ _ _ _ _ _ _ _ _ _ _ _ _ _ _ _ _ _ _ _ _ _ _ _ _ _ _ _ _ _ _ _ _ _ _ _ _ _ _ _ _ _ _ _ _ _ _ _ _ _ _ _ _ _ _ _ _ _ _ _ _ _ _ _ _ _ _ _ _ _ _ _ _ _ _ _ _ _ _ _ _ _ _ _ _ _ _ _ _ _ _ _ _ _ _ _ _ _ _ _ _ _ _ _ _ _ _ _ _ _ _ _ _ _ _ _ _ _ _ _ _ _ _ _ _ _ _ _ _ _ _)
      | true =>
        have hmm := makeMap_hint 33 31 3 Try.underlying33 n
        have M0 := World.ownsMap_made (H := Unit) wr Try.prog 31 (plainElem Try.prog 3)
        have B0 := (Below.refl wr.heap.size wr).alloc (Nat.le_refl _) (.map #[] 0)
        have I0 := IdxTo.start A
        go_wp2_with fail
        generalize hw9 : wr.alloc (.map #[] 0) = w9 at M0 B0 ⊢
        clear hmm hw9
        generalize hwb : wr = wb at *
        clear hwb
        go_loopw [21] (fun i wq => ∃ (k : Nat) (D : DataW Unit), k ≤ n ∧ i = .int .i64 k ∧ wq.ownsMap Try.prog 31 (plainElem Try.prog 3) wb.heap.size k D ∧ IdxTo D A k ∧ Below wb.heap.size wb wq) (fun i _ => n - (intOf i).toNat)
        case atStart => exact ⟨0, _, Nat.zero_le _, rfl, M0, I0, B0⟩
        case round =>
          clear M0 I0 B0
          obtain ⟨k5, D, hk, rfl, hown, hidx, hbq⟩ := hrel
          by_cases hlt5 : k5 < n
          · obtain ⟨z, hz⟩ : ∃ z, A[k5]? = some z := ⟨_, List.getElem?_eq_getElem (by rw [HAL.out]; omega)⟩
            obtain ⟨c0, c1, c2, c3⟩ := (ZL.below hbq).at0 hz
            have hzo := HA.out z (List.mem_of_getElem? hz)
            have I1 := hidx.next hz hzo
            clear hz hidx
            go_wp2_with (at_mapUpdate; refine wpList_mapUpdate_own _ rfl _ _ _ 33 rfl 31 3 law31 Try.underlying33 _ wb.heap.size k5 D rfl hown (by unfold maxLen; omega) _ _ (kl z) rfl rfl (key31 hzo) (.lit (.int .i64 (k5 : Int))) [] (plainElem_int Try.underlying3 (WalkArith.wf_i64 (by omega))) ?_; intro w7 hown7 hgrow7)
            go_roundw
            case rel => exact ⟨k5 + 1, _, by omega, by go_num, hown7, I1, hbq.grown hgrow7 hbq.size (fun j hj => by cases hj; exact Nat.le_refl _)⟩
            case measure => simp [intOf]; omega
          · have IX : Indexed D A := by
              have e := HAL.out
              have e2 : k5 = A.length := by omega
              rw [e2] at hidx
              exact hidx.indexed
            go_wp2_with fail
            exact HK.out _ _ (tail2 ao n ca x2 bo m cb x3 x4 A B w _ _ (some wb.heap.size) HZA.out HZB.out (.inr ⟨_, k5, D, rfl, hown, IX⟩) (ZL.below hbq) (BB.trans (hbq.mono BB.size)) HND.out HB.out hn hm _ _ _ _ _ _ _ _ _ _ _ _ _ _ _ _ _ _ _ _ _ _ _ _ _ _ _ _ _ _ _ _ _ _ _ _ _ _ _ _ _ _ _ _ _ _ _ _ _ _ _ _ _ _ _ _ _ _ _ _ _ _ _ _ _ _ _ _ _ _ _ _ _ _ _ _ _ _ _ _ _ _ _ _ _ _ _ _ _ _ _ _ _ _ _ _ _ _ _ _ _ _ _ _ _ _ _ _ _ _ _ _ _ _ _ _ _ _ _ _ _ _ _ _ _ _ _ _ _ _ _ _ _ _ _ _ _ _ _ _ _ _ _ _ _ _ _ _ _ _ _ _ _ _ _ _ _ _ _ _ _ _ _ _ _ _ _ _ _ _ _ _ _ _ _ _ _ _ _ _ _ _ _ _ _ _ _ _ _ _ _ _ _ _ _ _ _ _ _ _ _ _ _ _ _ _ _ _ _ _ _ _ _ _ _ _ _ _ _ _ _ _ _ _ _ _ _ _ _ _ _ _ _ _ _ _ _ _ _ _ _ _ _ _ _ _ _ _ _ _ _ _ _ _ _ _ _ _ _ _ _ _ _ _ _ _ _ _ _ _ _ _ _ _ _ _ _ _ _ _ _ _)

end Go.Proofs.Qxb6618312a
