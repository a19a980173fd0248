import Derived.Test.Qxb6618312aTail3
import Derived.Maps.OwnOps
import Derived.Deep.Cut
import Derived.Deep.RegionHeld3
namespace Go.Proofs.Qxb6618312a
open Go.RowKit Go.Maps

theorem makeID_below (a : ByteArray) (b : Bool) (c : ByteArray) (d : Int) (w : World) :
    Calls Try.prog 5 #[.string a, .bool b, .string c, .int .i64 d] w fun e w' => e = .returned (.agg #[.string a, .bool b, .string c, .int .i64 d]) ∧ Below w.heap.size w w' :=
  (makeID_any a b c d w).mono fun e w' ⟨h1, h2⟩ => ⟨h1, by rw [h2]; exact (Below.refl _ _).alloc (Nat.le_refl _) _⟩

theorem cell_far {w : World} {L o b p : Nat} {v : Value} (h : b ≠ L) : (w.setCell ⟨L, o, none⟩ v).cell? ⟨b, p, none⟩ = w.cell? ⟨b, p, none⟩ :=
  World.cell?_of_block (a := ⟨b, p, none⟩) (Below.heap_setCell w ⟨L, o, none⟩ v b h)

/-- What is known behind the making of an identity. -/
theorem made_facts {w0 wr W w6 : World} {L n k b off : Nat} {A : List Zid} {z : Zid} (hrow : wr.rowIs L 31 (n * 4) (idcell A k)) (za : ZAt wr b off z) (hbel : Below w0.heap.size w0 wr) (hb : Below W.heap.size W w6) (hk : k < n)
    (hW : W.heap = wr.heap := by rfl) (hO : W.os = wr.os := by rfl) (hT : W.tape = wr.tape := by rfl) (hU : W.output = wr.output := by rfl) :
    w6.cell? ⟨b, off, none⟩ = some (.string z.1) ∧ w6.cell? ⟨b, off + 1, none⟩ = some (.bool z.2.1) ∧ w6.cell? ⟨b, off + 2, none⟩ = some (.string z.2.2.1) ∧ w6.cell? ⟨b, off + 3, none⟩ = some (.int .i64 z.2.2.2) ∧
    w6.cell? ⟨L, k * 4, none⟩ = some (idcell A k (k * 4)) ∧ w6.cell? ⟨L, k * 4 + 1, none⟩ = some (idcell A k (k * 4 + 1)) ∧ w6.cell? ⟨L, k * 4 + 1 + 1, none⟩ = some (idcell A k (k * 4 + 1 + 1)) ∧ w6.cell? ⟨L, k * 4 + 1 + 1 + 1, none⟩ = some (idcell A k (k * 4 + 1 + 1 + 1)) ∧
    w6.frozen? ⟨L, k * 4, none⟩ = false ∧ w6.frozen? ⟨L, k * 4 + 1, none⟩ = false ∧ w6.frozen? ⟨L, k * 4 + 1 + 1, none⟩ = false ∧ w6.frozen? ⟨L, k * 4 + 1 + 1 + 1, none⟩ = false ∧
    w6.rowIs L 31 (n * 4) (idcell A k) ∧ Below w0.heap.size w0 w6 := by
  have hb' : Below wr.heap.size wr w6 := ⟨hb.os.trans hO, hb.tape.trans hT, hb.output.trans hU, by have := hb.size; rw [hW] at this; exact this, fun i hi => by rw [hb.block i (by rw [hW]; exact hi), hW]⟩
  have r6 := hrow.of_block (hb'.block L hrow.lt)
  have z6 := za.of_block (hb'.block b za.lt)
  exact ⟨z6.c0, z6.c1, z6.c2', z6.c3', r6.cell (by omega), r6.cell (by omega), r6.cell (by omega), r6.cell (by omega), r6.frozen _, r6.frozen _, r6.frozen _, r6.frozen _, r6, hbel.trans (hb'.mono hbel.size)⟩

set_option maxRecDepth 1000000 in
set_option maxHeartbeats 2000000 in
theorem tail2 (ao : Option Addr) (n ca : Nat) (x2 : Bool) (bo : Option Addr) (m cb : Nat) (x3 x4 : Bool) (A B : List Zid) (w wc : World) (L : Nat) (mo : Option Nat)
    (hZA : ZRow w ao n A) (hZB : ZRow w bo m B) (hmo : AtMap wc mo A) (hZL : ZRow wc (some ⟨L, 0, none⟩) n A) (hbel : Below w.heap.size w wc) (hnd : A.Nodup) (hB : ∀ z ∈ B, OkZ z) (hn : n ≤ 4096) (hm : m ≤ 4096)
    (u1 u6 u7 u8 u9 u10 u11 u12 u13 u14 u15 u16 u17 u19 u21 u22 u23 u24 u25 u26 u27 u28 u29 u30 u31 u32 u33 u34 u35 u36 u37 u38 u39 u40 u41 u42 u43 u44 u45 u46 u47 u48 u49 u50 u51 u52 u53 u54 u55 u56 u57 u58 u59 u60 u61 u62 u63 u64 u65 u66 u67 u68 u69 u70 u71 u72 u73 u74 u75 u76 u77 u78 u79 u80 u81 u82 u83 u84 u85 u86 u87 u88 u89 u90 u91 u92 u93 u94 u95 u96 u97 u98 u99 u100 u101 u102 u103 u104 u105 u106 u107 u108 u109 u110 u111 u112 u113 u114 u115 u116 u117 u118 u119 u120 u121 u122 u123 u124 u125 u126 u127 u128 u129 u130 u131 u132 u133 u134 u135 u136 u137 u138 u139 u140 u141 u142 u143 u144 u145 u146 u147 u148 u149 u150 u151 u152 u153 u154 u155 u156 u157 u158 u159 u160 u161 u162 u163 u164 u165 u166 u167 u168 u169 u170 u171 u172 u173 u174 u175 u176 u177 u178 u179 u180 u181 u182 u183 u184 u185 u186 u187 u188 u189 u190 u191 u192 u193 u194 u195 u196 u197 u198 u199 u200 u201 u202 u203 u204 u205 u206 u207 u208 u209 u210 u211 u212 u213 u214 u215 u216 u217 u218 u219 u220 u221 u222 u223 u224 u225 u226 u227 u228 u229 u230 u231 u232 u233 u234 u235 u236 u237 u238 u239 u240 u241 u242 u243 u244 u245 u246 u247 u248 u249 u250 u251 u252 u253 u254 u255 u256 u257 u258 u259 u260 u261 u262 u263 u264 u265 u266 u267 u268 u269 u270 u271 u272 u273 u274 u275 u276 u277 u278 u279 u280 u281 u282 u283 u284 u285 u286 u287 u288 : Value) :
    Code.wp Try.prog (suffix 37 (Try.f3.body.getD .skip)) (LawPost w) ⟨#[.slice ao n ca, u1, .bool x2, .slice bo m cb, .bool x3, .bool x4, u6, u7, u8, u9, u10, u11, u12, u13, u14, u15, u16, u17, .slice (some ⟨L, 0, none⟩) n n, u19, .map mo, u21, u22, u23, u24, u25, u26, u27, u28, u29, u30, u31, u32, u33, u34, u35, u36, u37, u38, u39, u40, u41, u42, u43, u44, u45, u46, u47, u48, u49, u50, u51, u52, u53, u54, u55, u56, u57, u58, u59, u60, u61, u62, u63, u64, u65, u66, u67, u68, u69, u70, u71, u72, u73, u74, u75, u76, u77, u78, u79, u80, u81, u82, u83, u84, u85, u86, u87, u88, u89, u90, u91, u92, u93, u94, u95, u96, u97, u98, u99, u100, u101, u102, u103, u104, u105, u106, u107, u108, u109, u110, u111, u112, u113, u114, u115, u116, u117, u118, u119, u120, u121, u122, u123, u124, u125, u126, u127, u128, u129, u130, u131, u132, u133, u134, u135, u136, u137, u138, u139, u140, u141, u142, u143, u144, u145, u146, u147, u148, u149, u150, u151, u152, u153, u154, u155, u156, u157, u158, u159, u160, u161, u162, u163, u164, u165, u166, u167, u168, u169, u170, u171, u172, u173, u174, u175, u176, u177, u178, u179, u180, u181, u182, u183, u184, u185, u186, u187, u188, u189, u190, u191, u192, u193, u194, u195, u196, u197, u198, u199, u200, u201, u202, u203, u204, u205, u206, u207, u208, u209, u210, u211, u212, u213, u214, u215, u216, u217, u218, u219, u220, u221, u222, u223, u224, u225, u226, u227, u228, u229, u230, u231, u232, u233, u234, u235, u236, u237, u238, u239, u240, u241, u242, u243, u244, u245, u246, u247, u248, u249, u250, u251, u252, u253, u254, u255, u256, u257, u258, u259, u260, u261, u262, u263, u264, u265, u266, u267, u268, u269, u270, u271, u272, u273, u274, u275, u276, u277, u278, u279, u280, u281, u282, u283, u284, u285, u286, u287, u288], []⟩ wc := by
  show Code.wp Try.prog (Code.seq _ _) (LawPost w) _ _
  have HND : Hid A.Nodup := hnd
  have HB : Hid (∀ z ∈ B, OkZ z) := hB
  have HZA : Hid (ZRow w ao n A) := hZA
  have HZB : Hid (ZRow w bo m B) := hZB
  obtain ⟨hbl, hb1⟩ := hZB
  have HBL : Hid (B.length = m) := hbl
  clear hnd hB hZA hbl
  have hmk := make31 m (by omega)
  have R0 := idcell_made wc B m
  have L0 := (Below.refl wc.heap.size wc).alloc (Nat.le_refl _) (.cells (madeCells #[.string ⟨#[]⟩, .bool false, .string ⟨#[]⟩, .int .i64 0] (m * 4)) 31)
  have hR := hbel.size
  go_wp2_with fail
  generalize wc.alloc (.cells (madeCells #[.string ⟨#[]⟩, .bool false, .string ⟨#[]⟩, .int .i64 0] (m * 4)) 31) = w8 at R0 L0 ⊢
  clear hmk
  go_loopw [23] (fun i wq => ∃ (k : Nat), k ≤ m ∧ i = .int .i64 k ∧ wq.rowIs wc.heap.size 31 (m * 4) (idcell B k) ∧ Below wc.heap.size wc wq) (fun i _ => m - (intOf i).toNat)
  case atStart => exact ⟨0, Nat.zero_le _, rfl, R0, L0⟩
  case round =>
    clear R0 L0
    obtain ⟨k4, hk, rfl, hrow, hbq⟩ := hrel
    by_cases hlt : k4 < m
    · rcases hb1 with h0 | ⟨b, off, rfl, hb1⟩
      · omega
      obtain ⟨z, hz⟩ : ∃ z, B[k4]? = some z := ⟨_, List.getElem?_eq_getElem (by rw [HBL.out]; omega)⟩
      have za := ((hb1 k4 z hz).of_block (hbel.block b (hb1 k4 z hz).lt)).of_block (hbq.block b (by have := (hb1 k4 z hz).lt; omega))
      have hbb := za.lt
      have c0 := za.c0
      have c1 := za.c1
      have c2 := za.c2'
      have c3 := za.c3'
      have hLlt := hrow.lt
      have HZ : Hid (B[k4]? = some z) := hz
      have hbL : b ≠ wc.heap.size := by have := (hb1 k4 z hz).lt; omega
      have hfar := fun (W : World) (o p : Nat) (v : Value) => cell_far (w := W) (o := o) (p := p) (v := v) hbL
      clear hb1 hz
      go_wp2_with fail
      go_region_held3 (fun w' => w'.cell? ⟨b, off + k4 * 4, none⟩ = some (.string z.1) ∧ w'.cell? ⟨b, off + k4 * 4 + 1, none⟩ = some (.bool z.2.1) ∧ w'.cell? ⟨b, off + k4 * 4 + 2, none⟩ = some (.string z.2.2.1) ∧ w'.cell? ⟨b, off + k4 * 4 + 3, none⟩ = some (.int .i64 z.2.2.2)) (go_keep) (first | (go_at_call 5; refine (makeID_below _ _ _ _ _).mono ?_; rintro e w6 ⟨rfl, hb6⟩; obtain ⟨y0, y1, y2, y3, g0, g1, g2, g3, f0, f1, f2, f3, hrow6, hb7⟩ := made_facts hrow za hbq hb6 hlt; clear hb6))
      clear c0 c1 c2 c3 hfar
      go_wp2_with fail
      go_roundw
      case rel => exact ⟨k4 + 1, by omega, by go_num, idcell_step hrow6 HZ.out, (((hb7.setCell (p := ⟨wc.heap.size, k4 * 4, none⟩) (Nat.le_refl _) _).setCell (p := ⟨wc.heap.size, k4 * 4 + 1, none⟩) (Nat.le_refl _) _).setCell (p := ⟨wc.heap.size, k4 * 4 + 2, none⟩) (Nat.le_refl _) _).setCell (p := ⟨wc.heap.size, k4 * 4 + 3, none⟩) (Nat.le_refl _) _⟩
      case measure => simp [intOf]; omega
    · obtain rfl : m = k4 := by omega
      have ZR := idcell_row HBL.out hrow
      have ZL := hZL.below hbq
      have AM := hmo.below hbq
      have BB := hbel.trans (hbq.mono hbel.size)
      clear hrow hk hbq hmo hZL hbel hb1
      go_upto_if 200 with (fail)
      rename_i K hK
      have HK : Hid _ := hK
      clear hK
      cases x3 with
      | false =>
        go_wp2_with fail
        exact HK.out _ _ (tail3 ao n ca x2 bo m cb x4 A B w _ L _ mo _ HZA.out HZB.out AM ZL ZR BB HND.out HB.out hn hm _ _ _ _ _ _ _ _ _ _ _ _ _ _ _ _ _ _ _ _ _ _ _ _ _ _ _ _ _ _ _ _ _ _ _ _ _ _ _ _ _ _ _ _ _ _ _ _ _ _ _ _ _ _ _ _ _ _ _ _ _ _ _ _ _ _ _ _ _ _ _ _ _ _ _ _ _ _ _ _ _ _ _ _ _ _ _ _ _ _ _ _ _ _ _ _ _ _ _ _ _ _ _ _ _ _ _ _ _ _ _ _ _ _ _ _ _ _ _ _ _ _ _ _ _ _ _ _ _ _ _ _ _ _ _ _ _ _ _ _ _ _ _ _ _ _ _ _ _ _ _ _ _ _ _ _ _ _ _ _ _ _ _ _ _ _ _ _ _ _ _ _ _ _ _ _ _ _ _ _ _ _ _ _ _ _ _ _ _ _ _ _ _ _ _ _ _ _ _ _ _ _ _ _ _ _ _ _ _ _ _ _ _ _ _ _ _ _ _ _ _ _ _ _ _ _ _ _ _ _ _ _ _ _ _ _ _ _ _ _ _ _ _ _ _ _ _ _ _ _ _ _ _ _ _ _ _ _ _ _ _ _ _ _ _ _ _ _ _ _ _ _ _ _ _ _ _ _ _ _ _)
      | true =>
        have hmm := makeMap_hint 33 31 3 Try.underlying33 m
        have M0 := World.ownsMap_made (H := Unit) wr Try.prog 31 (plainElem Try.prog 3)
        have B0 := (Below.refl wr.heap.size wr).alloc (Nat.le_refl _) (.map #[] 0)
        go_wp2_with fail
        generalize hw9 : wr.alloc (.map #[] 0) = w9 at M0 B0 ⊢
        clear hmm hw9
        generalize hwb : wr = wb at *
        clear hwb
        go_loopw [25] (fun i wq => ∃ (k : Nat) (D : DataW Unit), k ≤ m ∧ i = .int .i64 k ∧ wq.ownsMap Try.prog 31 (plainElem Try.prog 3) wb.heap.size k D ∧ Below wb.heap.size wb wq) (fun i _ => m - (intOf i).toNat)
        case atStart => exact ⟨0, _, Nat.zero_le _, rfl, M0, B0⟩
        case round =>
          clear M0 B0
          obtain ⟨k5, D, hk, rfl, hown, hbq⟩ := hrel
          by_cases hlt5 : k5 < m
          · obtain ⟨z, hz⟩ : ∃ z, B[k5]? = some z := ⟨_, List.getElem?_eq_getElem (by rw [HBL.out]; omega)⟩
            obtain ⟨c0, c1, c2, c3⟩ := (ZR.below hbq).at0 hz
            have hzo := HB.out z (List.mem_of_getElem? hz)
            clear hz
            cases hh : Maps.has D (kl z) with
            | true =>
              go_wp2_with (at_lookup; refine wpList_lookup_own_ok_int _ rfl _ _ 33 rfl 31 3 .i64 law31 Try.underlying33 Try.underlying3 (zero3 _) wb.heap.size k5 D rfl hown _ (kl z) rfl (key31 hzo) ?_; rw [hh]; intro c hat hwc)
              go_roundw
              case rel => exact ⟨k5 + 1, D, by omega, by go_num, hown.mono (by omega), hbq⟩
              case measure => simp [intOf]; omega
            | false =>
              go_wp2_with (first | (at_lookup; refine wpList_lookup_own_ok_int _ rfl _ _ 33 rfl 31 3 .i64 law31 Try.underlying33 Try.underlying3 (zero3 _) wb.heap.size k5 D rfl hown _ (kl z) rfl (key31 hzo) ?_; rw [hh]; intro c hat hwc) | (at_mapUpdate; refine wpList_mapUpdate_own _ rfl _ _ _ 33 rfl 31 3 law31 Try.underlying33 _ wb.heap.size k5 D rfl hown (by unfold maxLen; omega) _ _ (kl z) rfl rfl (key31 hzo) (.lit (.int .i64 (k5 : Int))) [] (plainElem_int Try.underlying3 (WalkArith.wf_i64 (by omega))) ?_; intro w7 hown7 hgrow7))
              go_roundw
              case rel => exact ⟨k5 + 1, _, by omega, by go_num, hown7, hbq.grown hgrow7 hbq.size (fun j hj => by cases hj; exact Nat.le_refl _)⟩
              case measure => simp [intOf]; omega
          · go_wp2_with fail
            exact HK.out _ _ (tail3 ao n ca x2 bo m cb x4 A B w _ L _ mo _ HZA.out HZB.out (AM.below hbq) (ZL.below hbq) (ZR.below hbq) (BB.trans (hbq.mono BB.size)) HND.out HB.out hn hm _ _ _ _ _ _ _ _ _ _ _ _ _ _ _ _ _ _ _ _ _ _ _ _ _ _ _ _ _ _ _ _ _ _ _ _ _ _ _ _ _ _ _ _ _ _ _ _ _ _ _ _ _ _ _ _ _ _ _ _ _ _ _ _ _ _ _ _ _ _ _ _ _ _ _ _ _ _ _ _ _ _ _ _ _ _ _ _ _ _ _ _ _ _ _ _ _ _ _ _ _ _ _ _ _ _ _ _ _ _ _ _ _ _ _ _ _ _ _ _ _ _ _ _ _ _ _ _ _ _ _ _ _ _ _ _ _ _ _ _ _ _ _ _ _ _ _ _ _ _ _ _ _ _ _ _ _ _ _ _ _ _ _ _ _ _ _ _ _ _ _ _ _ _ _ _ _ _ _ _ _ _ _ _ _ _ _ _ _ _ _ _ _ _ _ _ _ _ _ _ _ _ _ _ _ _ _ _ _ _ _ _ _ _ _ _ _ _ _ _ _ _ _ _ _ _ _ _ _ _ _ _ _ _ _ _ _ _ _ _ _ _ _ _ _ _ _ _ _ _ _ _ _ _ _ _ _ _ _ _ _ _ _ _ _ _ _ _ _ _ _ _ _ _ _ _ _ _ _ _ _)

end Go.Proofs.Qxb6618312a
