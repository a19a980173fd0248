import Derived.Test.Qxb6617750aLaw1
import Derived.Outline
namespace Go.Proofs.Qxb6617750a
open Go.RowKit

/-- What is known of the script's rows. -/
def Rws (w : World) (s : Nat) (A : Nat → Option Addr) (L Cp : Nat → Nat) (R : Nat → List Int) : Prop :=
  ∀ r, r < s → RowAt w (A r) (L r) (R r) ∧ L r ≤ Cp r ∧ (A r = none → Cp r = 0) ∧ L r ≤ maxLen

theorem Rws.bound {w : World} {s : Nat} {A : Nat → Option Addr} {L Cp : Nat → Nat} {R : Nat → List Int} (h : Rws w s A L Cp R) : ∀ r, r < s → L r ≤ maxLen := fun r hr => (h r hr).2.2.2

set_option maxRecDepth 100000 in
set_option maxHeartbeats 1000000 in
theorem law_any (a0 a1 a2 : Option Addr) (n ca m cb s cc : Nat) (X D : List Int) (A : Nat → Option Addr) (L Cp : Nat → Nat) (R : Nat → List Int) (w : World)
    (h0 : RowAt w a0 n X) (h1 : RowAt w a1 m D) (ht : TabAt w a2 s A L Cp) (hr : Rws w s A L Cp R)
    (n0 : Hid (a0 = none → ca = 0)) (n1 : Hid (a1 = none → cb = 0)) (l0 : n ≤ ca) (l1 : m ≤ cb) (hn : n ≤ maxLen) (hm : m ≤ maxLen) (hs : s ≤ maxLen) :
    Calls Try.prog 3 #[.slice a0 n ca, .slice a1 m cb, .slice a2 s cc] w fun e w' => e = .returned (.bool true) ∧ Below w.heap.size w w' := by
  go_enter Try.func3, Try.ntmps3
  go_wp2_with fail
  refine (bytes_any a0 a1 a2 n ca m cb s cc A L Cp _ ht hn hm hs hr.bound).mono ?_
  rintro e w1 ⟨⟨b, rfl, hLb⟩, hw⟩
  obtain rfl := hw.symm
  unfold maxLen at hn hm hs
  cases b with
  | false =>
    go_wp2_with fail
    go_ret
    exact ⟨rfl, Below.refl _ _⟩
  | true =>
    have HL : Hid (∀ r, r < s → L r ≤ 1048576) := hLb rfl
    clear hLb
    by_cases b0 : 65536 < (n : Int)
    · go_wp2_with fail
      go_ret
      exact ⟨rfl, Below.refl _ _⟩
    have d0 : decide (65536 < (n : Int)) = false := by simpa using b0
    by_cases b1 : 65536 < (m : Int)
    · go_wp2_with fail
      go_ret
      exact ⟨rfl, Below.refl _ _⟩
    have d1 : decide (65536 < (m : Int)) = false := by simpa using b1
    by_cases b2 : 65536 < (s : Int)
    · go_wp2_with fail
      go_ret
      exact ⟨rfl, Below.refl _ _⟩
    have d2 : decide (65536 < (s : Int)) = false := by simpa using b2
    go_wp2_with fail
    · go_ret
      exact ⟨rfl, Below.refl _ _⟩
    clear d0 d1 d2
    go_loop [7, 8] (fun z i => ∃ k : Nat, ∃ t : Int, k ≤ s ∧ i = .int .i64 k ∧ z = .int .i64 t ∧ 0 ≤ t ∧ t ≤ 1048576) (fun _ i => s - (intOf i).toNat)
    case atStart => exact ⟨0, _, Nat.zero_le _, rfl, rfl, by omega, by omega⟩
    case round =>
      obtain ⟨k, t, hk, rfl, rfl, ht0, ht1⟩ := hrel
      by_cases hlt : k < s
      · rcases ht with hz | ⟨sb, so, rfl, ht⟩
        · omega
        have hc := ht k hlt
        have hl := HL.out k hlt
        clear ht
        go_wp2_with fail
        · go_ret
          exact ⟨rfl, Below.refl _ _⟩
        · go_round
          case rel => exact ⟨k + 1, _, by omega, by go_num, rfl, by omega, by omega⟩
          case measure => simp [intOf]; omega
      · go_wp2_with fail
        clear ht0 ht1 hk hlt
        refine (cloneInts_any a0 n ca X _ h0 l0 (by omega) n0.out).mono ?_
        rintro e w1 ⟨v1, rfl, ho1, hb1⟩
        obtain ⟨ao1, c1, hv1, -, -, -⟩ := row_of_owns ho1
        subst hv1
        go_wp2_with fail
        refine (cloneInts_any a1 m cb D _ (h1.below (Nat.le_refl _) hb1) l1 (by omega) n1.out).mono ?_
        rintro e w2 ⟨v2, rfl, ho2, hb2⟩
        obtain ⟨ao2, c2, hv2, -, -, -⟩ := row_of_owns ho2
        subst hv2
        go_wp2_with fail
        refine (newFrame_any ao1 ao2 n c1 m c2 _).mono ?_
        rintro e w3 ⟨rfl, hw3⟩
        obtain ⟨F0, B0⟩ := frame_made h0.1 h1.1 ho1 hb1 ho2 hb2
        rw [← hw3] at F0 B0
        have hfb : ∃ fb, fb = w2.heap.size := ⟨_, rfl⟩
        obtain ⟨fb, hfb⟩ := hfb
        rw [← hfb] at F0 ⊢
        clear hw3 hfb ho1 ho2 hb1 hb2
        have F1 : ∃ sv cv, FrameIs w3 w.heap.size fb sv cv (pAt X R 0) (logAt X D R 0) := ⟨_, _, by simpa [pAt, logAt, cnt] using F0⟩
        clear F0
        go_wp2_with fail
        go_loopw [10] (fun i wr => ∃ k : Nat, k ≤ s ∧ i = .int .i64 k ∧ (∃ sv cv, FrameIs wr w.heap.size fb sv cv (pAt X R k) (logAt X D R k)) ∧ Below w.heap.size w wr) (fun i _ => s - (intOf i).toNat)
        case atStart => exact ⟨0, Nat.zero_le _, rfl, F1, B0⟩
        case round =>
          clear F1 B0
          obtain ⟨k2, hk2, rfl, ⟨sv, cv, F2⟩, B2⟩ := hrel
          by_cases hlt : k2 < s
          · rcases ht with hz | ⟨sb, so, rfl, ht⟩
            · omega
            have hc := ht k2 hlt
            have hcl : wr.cell? ⟨sb, so + k2, none⟩ = some (.slice (A k2) (L k2) (Cp k2)) := (B2.cell (p := ⟨sb, so + k2, none⟩) (World.block_lt_of_cell? w _ hc)).trans hc
            clear ht hc
            go_wp2_with fail
            obtain ⟨hrow, hlc, hnil, _⟩ := hr k2 hlt
            have hLk := HL.out k2 hlt
            refine (cloneInts_any (A k2) (L k2) (Cp k2) (R k2) _ (hrow.below (Nat.le_refl _) B2) hlc (by omega) hnil).mono ?_
            rintro e w4 ⟨v4, rfl, ho4, hb4⟩
            have hsz := B2.size
            have hap := apart_new F2 ho4
            have ho5 : w4.ownsRow w.heap.size 3 1 v4 (R k2).length ((R k2).map (Value.int .i64)) := by rw [hrow.1]; exact owns_weaken ho4 hsz
            have hRl : (R k2).length ≤ 1099511627776 := by rw [hrow.1]; omega
            have F4 := frame_below F2 hb4
            have hSl : (pAt X R k2).length ≤ 1099511627776 := pAt_le X R k2 (by rw [h0.1]; omega) (fun j hj => by rw [(hr j (by omega)).1.1]; have := HL.out j (by omega); omega)
            have hCl : (logAt X D R k2).length ≤ 1099511627776 := by rw [logAt_length, h1.1]; have := cnt_le X R k2; omega
            obtain ⟨ao4, c4, hv4, -, -, -⟩ := row_of_owns ho4
            subst hv4
            clear hnil
            have HR : Hid (RowAt w (A k2) (L k2) (R k2)) := hrow
            clear hrow
            go_wp2_with fail
            refine (zzSetSubs_any fb w.heap.size sv cv (pAt X R k2) (logAt X D R k2) (R k2) ao4 (L k2) c4 _ F4 ho5 hap hSl hRl hCl).mono ?_
            rintro e w5 ⟨rfl, ⟨sv5, cv5, F5⟩, B5⟩
            rw [logAt_succ] at F5
            have B6 := B2.trans ((hb4.mono hsz).trans B5)
            clear F2 F4 ho4 ho5 hb4 B5 hap hcl B2
            go_wp2_with fail
            go_roundw
            case rel => exact ⟨k2 + 1, by omega, by go_num, ⟨sv5, cv5, F5⟩, B6⟩
            case measure => simp [intOf]; omega
          · obtain rfl : s = k2 := by omega
            clear hlt hk2
            obtain ⟨fo, fc, hsv, -, -, hsr⟩ := row_of_owns F2.subs
            obtain ⟨co, cc2, hcv, -, -, hcr⟩ := row_of_owns F2.chg
            subst hsv hcv
            have g3 := F2.cell3
            have g7 := F2.cell7
            have h0' := h0.below (Nat.le_refl _) B2
            have h1' := h1.below (Nat.le_refl _) B2
            have hr' : ∀ r, r < s → RowAt wr (A r) (L r) (R r) := fun r h => (hr r h).1.below (Nat.le_refl _) B2
            have ht' : TabAt wr a2 s A L Cp := ht.below B2
            clear F2 hr ht h0 h1
            go_wp2_with fail
            go_loopw [11, 12] (fun c i wq => ∃ j q : Nat, j ≤ s ∧ i = .int .i64 j ∧ c = .int .i64 (cnt X R j) ∧ wq = wr.drewN q) (fun _ i _ => s - (intOf i).toNat)
            case atStart => exact ⟨0, 0, Nat.zero_le _, rfl, rfl, rfl⟩
            case round =>
              obtain ⟨j, q, hj, rfl, rfl, rfl⟩ := hrel
              have hcj := cnt_le X R j
              by_cases hlt : j < s
              · rcases ht' with hz | ⟨sb, so, rfl, ht⟩
                · omega
                have hc := ht j hlt
                have hrj := hr' j hlt
                have hLj := HL.out j hlt
                cases j with
                | zero =>
                  clear ht
                  have hc0 : wr.cell? ⟨sb, so, none⟩ = some (.slice (A 0) (L 0) (Cp 0)) := by simpa using hc
                  go_wp2_with fail
                  refine (sameInts_any a0 (A 0) n ca (L 0) (Cp 0) X (R 0) _ (h0'.drewN q) (hrj.drewN q) (by omega) (by omega)).mono ?_
                  rintro e w6 ⟨rfl, q2, rfl⟩
                  by_cases hXR : X = R 0
                  · have hd : decide (X = R 0) = true := by simp [hXR]
                    have HE : Hid (cnt X R 1 = cnt X R 0) := cnt_eq hXR
                    clear hXR
                    go_wp2_with fail
                    go_roundw
                    case rel => exact ⟨1, q + q2, by omega, by go_num, by rw [HE.out], rfl⟩
                    case measure => simp [intOf]; omega
                  · have hd : decide (X = R 0) = false := by simp [hXR]
                    have HE : Hid (cnt X R 1 = cnt X R 0 + 1) := cnt_ne hXR
                    clear hXR
                    go_wp2_with fail
                    go_roundw
                    case rel => exact ⟨1, q + q2, by omega, by go_num, by rw [HE.out]; go_num, rfl⟩
                    case measure => simp [intOf]; omega
                | succ j =>
                  have hp := ht j (by omega)
                  have hrp := hr' j (by omega)
                  have hLp := HL.out j (by omega)
                  clear ht
                  go_wp2_with fail
                  refine (sameInts_any (A j) (A (j + 1)) (L j) (Cp j) (L (j + 1)) (Cp (j + 1)) (R j) (R (j + 1)) _ (hrp.drewN q) (hrj.drewN q) (by omega) (by omega)).mono ?_
                  rintro e w6 ⟨rfl, q2, rfl⟩
                  by_cases hXR : R j = R (j + 1)
                  · have hd : decide (R j = R (j + 1)) = true := by simp [hXR]
                    have HE : Hid (cnt X R (j + 1 + 1) = cnt X R (j + 1)) := cnt_eq hXR
                    clear hXR
                    go_wp2_with fail
                    go_roundw
                    case rel => exact ⟨j + 1 + 1, q + q2, by omega, by go_num, by rw [HE.out], rfl⟩
                    case measure => simp [intOf]; omega
                  · have hd : decide (R j = R (j + 1)) = false := by simp [hXR]
                    have HE : Hid (cnt X R (j + 1 + 1) = cnt X R (j + 1) + 1) := cnt_ne hXR
                    clear hXR
                    go_wp2_with fail
                    go_roundw
                    case rel => exact ⟨j + 1 + 1, q + q2, by omega, by go_num, by rw [HE.out]; go_num, rfl⟩
                    case measure => simp [intOf]; omega
              · obtain rfl : s = j := by omega
                clear hlt hj
                have hSl : (pAt X R s).length ≤ 1099511627776 := pAt_le X R s (by rw [h0'.1]; omega) (fun i hi => by rw [(hr' i (by omega)).1]; have := HL.out i (by omega); omega)
                have hlog := logAt_length X D R s
                rw [h1'.1] at hlog
                have HLG : Hid ((logAt X D R s).length = m + cnt X R s) := hlog
                clear hlog
                by_cases hs0 : s = 0
                · subst hs0
                  go_wp2_with fail
                  refine (zzSubs_any fb fo _ fc (wr.drewN q) g3).mono ?_
                  rintro e w7 ⟨rfl, hw7⟩
                  obtain rfl := hw7.symm
                  go_wp2_with fail
                  refine (sameInts_any fo a0 _ fc n ca (pAt X R 0) X _ (hsr.drewN q) (h0'.drewN q) hSl (by omega)).mono ?_
                  rintro e w6 ⟨rfl, q2, rfl⟩
                  have hd : decide (pAt X R 0 = X) = true := by simp [pAt]
                  rw [hd]
                  clear hd
                  rw [HLG.out] at hcr g7
                  obtain ⟨hlgl, hcr⟩ := hcr
                  obtain ⟨hDl, h1'⟩ := h1'
                  have HD : Hid (D.length = m) := hDl
                  clear hlgl hDl h0' hsr g3 HL hr' HLG hSl
                  generalize hN : cnt X R 0 = N at hcr g7 hcj ⊢
                  have HN : Hid (cnt X R 0 = N) := hN
                  clear hN
                  go_wp2_with fail
                  refine (zzChanged_any fb co _ cc2 (wr.drewN (q + q2)) g7).mono ?_
                  rintro e w8 ⟨rfl, hw8⟩
                  obtain rfl := hw8.symm
                  clear g7
                  go_wp2_with fail
                  go_loopw [16] (fun i wq => ∃ j q3 : Nat, j ≤ m ∧ i = .int .i64 j ∧ wq = wr.drewN q3) (fun i _ => m - (intOf i).toNat)
                  case atStart => exact ⟨0, _, Nat.zero_le _, rfl, rfl⟩
                  case round =>
                    obtain ⟨j, q3, hj, rfl, rfl⟩ := hrel
                    by_cases hlt : j < m
                    · rcases hcr with hz | ⟨gb, go, rfl, hcr⟩
                      · omega
                      rcases h1' with hz | ⟨db, dof, rfl, h1'⟩
                      · omega
                      have k1 := hcr j (by omega)
                      have k2 := h1' j hlt
                      rw [logAt_left X D R _ j (by rw [HD.out]; exact hlt)] at k1
                      clear hcr h1'
                      go_wp2_with fail
                      go_quiet (fail)
                      go_wp2_with fail
                      go_roundw
                      case rel => exact ⟨j + 1, _, by omega, by go_num, rfl⟩
                      case measure => simp [intOf]; omega
                    · obtain rfl : m = j := by omega
                      clear hlt hj
                      go_wp2_with fail
                      go_loopw [17] (fun i wq => ∃ j : Nat, m ≤ j ∧ j ≤ m + N ∧ i = .int .i64 j ∧ wq = wr.drewN q3) (fun i _ => m + N - (intOf i).toNat)
                      case atStart => exact ⟨m, Nat.le_refl _, by omega, rfl, rfl⟩
                      case round =>
                        obtain ⟨j, hj0, hj, rfl, rfl⟩ := hrel
                        by_cases hlt : j < m + N
                        · exfalso; omega
                        · go_wp2_with fail
                          go_ret
                          exact ⟨rfl, below_drewN B2 _⟩
                · have hpos : 0 < s := by omega
                  have hpA : pAt X R s = R (s - 1) := pAt_pos X R s hpos
                  have HPA : Hid (pAt X R s = R (s - 1)) := hpA
                  clear hs0 hpA
                  rcases ht' with hz | ⟨sb, so, rfl, ht⟩
                  · omega
                  have hc := ht (s - 1) (by omega)
                  have hrj := hr' (s - 1) (by omega)
                  have hLj := HL.out (s - 1) (by omega)
                  clear ht
                  go_wp2_with fail
                  refine (zzSubs_any fb fo _ fc (wr.drewN q) g3).mono ?_
                  rintro e w7 ⟨rfl, hw7⟩
                  obtain rfl := hw7.symm
                  go_wp2_with fail
                  refine (sameInts_any fo (A (s - 1)) _ fc (L (s - 1)) (Cp (s - 1)) (pAt X R s) (R (s - 1)) _ (hsr.drewN q) (hrj.drewN q) hSl (by omega)).mono ?_
                  rintro e w6 ⟨rfl, q2, rfl⟩
                  have hd : decide (pAt X R s = R (s - 1)) = true := by simp [HPA.out]
                  rw [hd]
                  clear hd
                  rw [HLG.out] at hcr g7
                  obtain ⟨hlgl, hcr⟩ := hcr
                  obtain ⟨hDl, h1'⟩ := h1'
                  have HD : Hid (D.length = m) := hDl
                  clear hlgl hDl h0' hsr g3 HL hr' HLG hSl
                  generalize hN : cnt X R s = N at hcr g7 hcj ⊢
                  have HN : Hid (cnt X R s = N) := hN
                  clear hN
                  go_wp2_with fail
                  refine (zzChanged_any fb co _ cc2 (wr.drewN (q + q2)) g7).mono ?_
                  rintro e w8 ⟨rfl, hw8⟩
                  obtain rfl := hw8.symm
                  clear g7
                  go_wp2_with fail
                  go_loopw [16] (fun i wq => ∃ j q3 : Nat, j ≤ m ∧ i = .int .i64 j ∧ wq = wr.drewN q3) (fun i _ => m - (intOf i).toNat)
                  case atStart => exact ⟨0, _, Nat.zero_le _, rfl, rfl⟩
                  case round =>
                    obtain ⟨j, q3, hj, rfl, rfl⟩ := hrel
                    by_cases hlt : j < m
                    · rcases hcr with hz | ⟨gb, go, rfl, hcr⟩
                      · omega
                      rcases h1' with hz | ⟨db, dof, rfl, h1'⟩
                      · omega
                      have k1 := hcr j (by omega)
                      have k2 := h1' j hlt
                      rw [logAt_left X D R _ j (by rw [HD.out]; exact hlt)] at k1
                      clear hcr h1'
                      go_wp2_with fail
                      go_quiet (fail)
                      go_wp2_with fail
                      go_roundw
                      case rel => exact ⟨j + 1, _, by omega, by go_num, rfl⟩
                      case measure => simp [intOf]; omega
                    · obtain rfl : m = j := by omega
                      clear hlt hj
                      go_wp2_with fail
                      go_loopw [17] (fun i wq => ∃ j : Nat, m ≤ j ∧ j ≤ m + N ∧ i = .int .i64 j ∧ wq = wr.drewN q3) (fun i _ => m + N - (intOf i).toNat)
                      case atStart => exact ⟨m, Nat.le_refl _, by omega, rfl, rfl⟩
                      case round =>
                        obtain ⟨j, hj0, hj, rfl, rfl⟩ := hrel
                        by_cases hlt : j < m + N
                        · rcases hcr with hz | ⟨gb, go, rfl, hcr⟩
                          · omega
                          have k1 := hcr j (by omega)
                          rw [logAt_right X D R _ j (by rw [HD.out]; exact hj0) (by rw [HD.out, HN.out]; exact hlt)] at k1
                          clear hcr
                          go_wp2_with fail
                          go_roundw
                          case rel => exact ⟨j + 1, by omega, by omega, by go_num, by trivial⟩
                          case measure => simp [intOf]; omega
                        · go_wp2_with fail
                          go_ret
                          exact ⟨rfl, below_drewN B2 _⟩

end Go.Proofs.Qxb6617750a
