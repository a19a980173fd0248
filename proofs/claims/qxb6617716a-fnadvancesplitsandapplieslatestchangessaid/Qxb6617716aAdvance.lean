import Derived.Test.Qxb6617716aState
import Derived.BigRegion
namespace Go.Proofs.Qxb6617716a
open Go.RowKit

set_option maxRecDepth 100000 in
set_option maxHeartbeats 2000000 in
theorem advance_any (lo r pb q c n m : Nat) (su : Value) (ap : Option Addr) (P : Nat → Bool) (La Lo : Nat → Nat) (C : Chs) (k : Nat) (t : Int) (w : World) (hm : m ≤ 1048576) (hk : k ≤ m)
    (hus : ∀ i, i < m → 0 ≤ C.us i ∧ C.us i < n) (h : Rep w lo r pb q c n m su ap P La Lo C k) :
    Calls Try.prog 11 #[.pointer (some ⟨r, 0, none⟩), .int .i64 t] w fun e w' => RetAdv w w' lo r pb q c n m su ap P La Lo C k t e := by
  obtain ⟨i0, hi, hz0, hz1, hz2⟩ := info_parts Try.info3
  have S0 : ASt w w lo r pb q c n m su ap P La Lo C k k 0 (.slice none 0 0) := ⟨World.ownsRow_nil _ _ _ _, h, Apart.refl _ _ _, h.lt⟩
  have HU : Hid (∀ i, i < m → 0 ≤ C.us i ∧ C.us i < n) := hus
  clear h hus
  go_enter Try.func11, Try.ntmps11
  go_wp2
  go_loopw [5] (fun v wr => ∃ kk d : Nat, Hid (kk = k + d) ∧ kk ≤ m ∧ lenOf v = d ∧ d ≤ kk ∧ Hid (∀ j, k ≤ j → j < kk → C.at' j ≤ t) ∧ ASt w wr lo r pb q c n m su ap (stP C P k d) (stV C C.la La k d) (stV C C.lo Lo k d) C kk k d v) (fun v _ => m - lenOf v)
  case atStart => exact ⟨k, 0, rfl, hk, rfl, Nat.zero_le _, fun j h1 h2 => by omega, S0⟩
  case round =>
    clear S0
    obtain ⟨kk, d, HK, hkm, hlen, hdk, HG, S1⟩ := hrel
    obtain ⟨ao, cc, rfl, _⟩ := S1.shape
    have f4 := S1.rep.c4
    have f3 := S1.rep.c3
    by_cases hlt : kk < m
    · have g0 := S1.rep.chg.cell (i := kk * 5) (by omega)
      rw [ccell0] at g0
      by_cases hat : C.at' kk ≤ t
      · obtain ⟨u, hu⟩ : ∃ u : Nat, C.us kk = (u : Int) := ⟨(C.us kk).toNat, by have := (HU.out kk hlt).1; omega⟩
        have hun : u < n := by have := (HU.out kk hlt).2; omega
        have HUU : Hid (C.us kk = (u : Int)) := hu
        go_wp2_with fail
        go_quiet (fail)
        go_wp2_with fail
        have S2 := S1.drewN nq
        clear f4 f3 g0 S1
        generalize wr.drewN nq = w1 at S2 ⊢
        have f4 := S2.rep.c4
        have f3 := S2.rep.c3
        have g0 := S2.rep.chg.cell (i := kk * 5) (by omega)
        have g1 := S2.rep.chg.cell (i := kk * 5 + 1) (by omega)
        have g2 := S2.rep.chg.cell (i := kk * 5 + 2) (by omega)
        have g3 := S2.rep.chg.cell (i := kk * 5 + 3) (by omega)
        have g4 := S2.rep.chg.cell (i := kk * 5 + 4) (by omega)
        rw [ccell0] at g0
        rw [ccell1, hu] at g1
        rw [ccell2] at g2
        rw [ccell3] at g3
        rw [ccell4] at g4
        have S3 := S2.alloc (.cells #[.int .i64 0, .int .i64 0, .bool false, .float .f64 0, .float .f64 0] 45)
        have f4' := S3.rep.c4
        have f3' := S3.rep.c3
        have g0' := S3.rep.chg.cell (i := kk * 5) (by omega)
        have g1' := S3.rep.chg.cell (i := kk * 5 + 1) (by omega)
        have g2' := S3.rep.chg.cell (i := kk * 5 + 2) (by omega)
        have g3' := S3.rep.chg.cell (i := kk * 5 + 3) (by omega)
        have g4' := S3.rep.chg.cell (i := kk * 5 + 4) (by omega)
        rw [ccell0] at g0'
        rw [ccell1, hu] at g1'
        rw [ccell2] at g2'
        rw [ccell3] at g3'
        rw [ccell4] at g4'
        clear hu S3
        go_region
        have hL : (w1.alloc (.cells #[.int .i64 (C.at' kk), .int .i64 (u : Int), .bool (C.lv kk), .float .f64 (C.la kk), .float .f64 (C.lo kk)] 45)).drew.heap[w1.heap.size]? = some (.cells #[.int .i64 (C.at' kk), .int .i64 (u : Int), .bool (C.lv kk), .float .f64 (C.la kk), .float .f64 (C.lo kk)] 45 (0, 0)) := Go.heap_alloc_new w1 _
        have S4 := (S2.alloc (.cells #[.int .i64 (C.at' kk), .int .i64 (u : Int), .bool (C.lv kk), .float .f64 (C.la kk), .float .f64 (C.lo kk)] 45)).drew
        have hLs := S2.apart.size
        have hrs := S2.hr
        clear f4 f3 g0 g1 g2 g3 g4 f4' f3' g0' g1' g2' g3' g4' S2
        generalize (w1.alloc (.cells #[.int .i64 (C.at' kk), .int .i64 (u : Int), .bool (C.lv kk), .float .f64 (C.la kk), .float .f64 (C.lo kk)] 45)).drew = w2 at S4 hL ⊢
        generalize w1.heap.size = L at hL hLs ⊢
        have o1 := S4.rep.oq
        have o2 := S4.rep.oc
        have o3 := S4.rep.orr
        rcases S4.rep.pres with h0 | ⟨hap, o4, o5, hprow⟩
        · omega
        subst hap
        have f1 := S4.rep.c1
        have l1 : w2.cell? ⟨L, 1, none⟩ = some (.int .i64 (u : Int)) := by simp [World.cell?, hL]
        have l2 : w2.cell? ⟨L, 2, none⟩ = some (.bool (C.lv kk)) := by simp [World.cell?, hL]
        have p0 := hprow.cell hun
        have p1 := hprow.frozen u
        clear hprow
        go_wp2_with fail
        go_region
        have S5 := (S4.setP hun (!C.lv kk)).drew
        have hL2 : (w2.setCell ⟨pb, u, none⟩ (.bool (!C.lv kk))).drew.heap[L]? = some (.cells #[.int .i64 (C.at' kk), .int .i64 (u : Int), .bool (C.lv kk), .float .f64 (C.la kk), .float .f64 (C.lo kk)] 45 (0, 0)) := (Below.heap_setCell w2 ⟨pb, u, none⟩ _ L (show L ≠ pb by omega)).trans hL
        clear f1 l1 l2 p0 p1 S4 hL
        have e1 : (fun i => if i = u then (!C.lv kk) else stP C P k d i) = stP C P k (d + 1) := by
          rw [HK.out]
          exact Plain.app_on (v := fun j => !C.lv j) (by rw [← HK.out]; exact HUU.out) rfl
        rw [e1] at S5
        clear e1
        have HGN : Hid (∀ j, k ≤ j → j < kk + 1 → C.at' j ≤ t) := fun j h1 h2 => by
          by_cases e : j = kk
          · rw [e]; exact hat
          · exact HG.out j h1 (by omega)
        generalize (w2.setCell ⟨pb, u, none⟩ (.bool (!C.lv kk))).drew = w3 at S5 hL2 ⊢
        have l1 : w3.cell? ⟨L, 1, none⟩ = some (.int .i64 (u : Int)) := by simp [World.cell?, hL2]
        have l2 : w3.cell? ⟨L, 2, none⟩ = some (.bool (C.lv kk)) := by simp [World.cell?, hL2]
        cases hlv : C.lv kk with
        | true =>
          rw [hlv] at l2
          have eA : stV C C.la La k d = stV C C.la La k (d + 1) := Plain.app_off (by rw [← HK.out, hlv]; rfl)
          have eB : stV C C.lo Lo k d = stV C C.lo Lo k (d + 1) := Plain.app_off (by rw [← HK.out, hlv]; rfl)
          rw [eA, eB] at S5
          have S8 := S5
          obtain ⟨w4, hw4⟩ : ∃ w4, w4 = w3 := ⟨_, rfl⟩
          subst hw4
          clear eA eB S5 hL2 hlv HG
          have S9 := S8.alloc (.cells #[.int .i64 (u : Int)] 3)
          go_wp2_with (at_builtin; refine wpList_append_own2 _ rfl _ _ 25 rfl w.heap.size 3 i0 (.int .i64 0) 1 8 Try.underlying25 hi hz0 hz1 hz2 rfl (by decide) _ d (ulist C k d) rfl S9.own ⟨w4.heap.size, 0, none⟩ 1 1 [.int .i64 (u : Int)] rfl rfl ?qa1 ?qa2 ?qa3 ?qa4 ?qa5 ?_)
          case qa1 => exact one_new _ _ _
          case qa2 => intro x hx; simp at hx; subst hx; rfl
          case qa3 => unfold maxLen; omega
          case qa4 => omega
          case qa5 => exact S9.apart.size
          intro v' w5 hown hgrow _
          have SA := S9.push (by rw [← HK.out]; exact HUU.out) hown hgrow
          obtain ⟨ao', cc', hv', _⟩ := SA.shape
          subst hv'
          have f4 := SA.rep.c4
          have z4 := SA.rep.z4
          have SB := SA.inc (kk + 1)
          clear SA S9 S8 hown hgrow l1
          go_wp2_with fail
          go_roundw
          case rel => exact ⟨kk + 1, d + 1, by show kk + 1 = k + (d + 1); rw [HK.out]; omega, by omega, rfl, by omega, HGN, by simpa using SB⟩
          case measure => simp [lenOf]; omega
        | false =>
          rw [hlv] at l2
          have l3 : w3.cell? ⟨L, 3, none⟩ = some (.float .f64 (C.la kk)) := by simp [World.cell?, hL2]
          have l4 : w3.cell? ⟨L, 4, none⟩ = some (.float .f64 (C.lo kk)) := by simp [World.cell?, hL2]
          have f2 := S5.rep.c2
          have p0 := S5.rep.pos.cell (i := u * 2) (by omega)
          have p1 := S5.rep.pos.cell (i := u * 2 + 1) (by omega)
          have z0 := S5.rep.pos.frozen (u * 2)
          have z1 := S5.rep.pos.frozen (u * 2 + 1)
          go_wp2_with fail
          go_region
          have S8 := (S5.setPos u (C.la kk) (C.lo kk)).drew
          have eA : (fun i => if i = u then C.la kk else stV C C.la La k d i) = stV C C.la La k (d + 1) := by
            rw [HK.out]
            exact Plain.app_on (by rw [← HK.out]; exact HUU.out) (by rw [← HK.out, hlv]; rfl)
          have eB : (fun i => if i = u then C.lo kk else stV C C.lo Lo k d i) = stV C C.lo Lo k (d + 1) := by
            rw [HK.out]
            exact Plain.app_on (by rw [← HK.out]; exact HUU.out) (by rw [← HK.out, hlv]; rfl)
          rw [eA, eB] at S8
          have hL3 : (((w3.setCell ⟨q, u * 2, none⟩ (.float .f64 (C.la kk))).setCell ⟨q, u * 2 + 1, none⟩ (.float .f64 (C.lo kk))).drew).heap[L]? = some (.cells #[.int .i64 (C.at' kk), .int .i64 (u : Int), .bool (C.lv kk), .float .f64 (C.la kk), .float .f64 (C.lo kk)] 45 (0, 0)) :=
            (Below.heap_setCell (w3.setCell ⟨q, u * 2, none⟩ (.float .f64 (C.la kk))) ⟨q, u * 2 + 1, none⟩ _ L (show L ≠ q by omega)).trans ((Below.heap_setCell w3 ⟨q, u * 2, none⟩ _ L (show L ≠ q by omega)).trans hL2)
          clear eA eB S5 hL2 HG l1 l2 l3 l4 f2 p0 p1 z0 z1
          generalize ((w3.setCell ⟨q, u * 2, none⟩ (.float .f64 (C.la kk))).setCell ⟨q, u * 2 + 1, none⟩ (.float .f64 (C.lo kk))).drew = w4 at S8 hL3 ⊢
          have l1 : w4.cell? ⟨L, 1, none⟩ = some (.int .i64 (u : Int)) := by simp [World.cell?, hL3]
          clear hlv hL3
          have S9 := S8.alloc (.cells #[.int .i64 (u : Int)] 3)
          go_wp2_with (at_builtin; refine wpList_append_own2 _ rfl _ _ 25 rfl w.heap.size 3 i0 (.int .i64 0) 1 8 Try.underlying25 hi hz0 hz1 hz2 rfl (by decide) _ d (ulist C k d) rfl S9.own ⟨w4.heap.size, 0, none⟩ 1 1 [.int .i64 (u : Int)] rfl rfl ?qa1 ?qa2 ?qa3 ?qa4 ?qa5 ?_)
          case qa1 => exact one_new _ _ _
          case qa2 => intro x hx; simp at hx; subst hx; rfl
          case qa3 => unfold maxLen; omega
          case qa4 => omega
          case qa5 => exact S9.apart.size
          intro v' w5 hown hgrow _
          have SA := S9.push (by rw [← HK.out]; exact HUU.out) hown hgrow
          obtain ⟨ao', cc', hv', _⟩ := SA.shape
          subst hv'
          have f4 := SA.rep.c4
          have z4 := SA.rep.z4
          have SB := SA.inc (kk + 1)
          clear SA S9 S8 hown hgrow l1
          go_wp2_with fail
          go_roundw
          case rel => exact ⟨kk + 1, d + 1, by show kk + 1 = k + (d + 1); rw [HK.out]; omega, by omega, rfl, by omega, HGN, by simpa using SB⟩
          case measure => simp [lenOf]; omega
      · have hd : decide (C.at' kk ≤ t) = false := decide_eq_false hat
        go_wp2_with fail
        go_quiet (fail)
        go_wp2_with fail
        go_ret
        have S2 := S1.drewN nq
        obtain ⟨ao2, cc2, hv2, hrd⟩ := S2.shape
        have hkd := HK.out
        subst hkd
        exact ⟨d, ao2, cc2, congrArg Ending.returned hv2, hrd, ⟨by omega, hkm, HG.out, .inr (by omega)⟩, S2.rep, S2.apart⟩
    · have hd : decide ((kk : Int) < (m : Int)) = false := decide_eq_false (by omega)
      go_wp2_with fail
      go_quiet (fail)
      go_wp2_with fail
      go_ret
      have S2 := S1.drewN nq
      obtain ⟨ao2, cc2, hv2, hrd⟩ := S2.shape
      have hkd := HK.out
      subst hkd
      exact ⟨d, ao2, cc2, congrArg Ending.returned hv2, hrd, ⟨by omega, hkm, HG.out, .inl (by omega)⟩, S2.rep, S2.apart⟩

end Go.Proofs.Qxb6617716a
