import Derived.Test.Qxb6618312aMatch
namespace Go.Proofs.Qxb6618312a
open Go.RowKit

theorem lc_le (A B : List Zid) (i j : Nat) : Plain.lc A B i j ≤ j := by
  induction j with
  | zero => rw [Plain.lc_zero]; exact Nat.le_refl _
  | succ j ih => have := ((Plain.lc_mild A B i).2 j).2; omega

/-- One row half filled: up to j the new row, behind it what was there. -/
def half (A B : List Zid) (i j : Nat) (cv : Nat → Int) (x : Nat) : Value := .int .i64 (if x ≤ j then (Plain.lc A B (i + 1) x : Int) else cv x)

theorem half_start {w : World} {c m i : Nat} {A B : List Zid} {cv : Nat → Int} (h : w.rowIs c 3 (m + 1) (fun x => .int .i64 (cv x))) : (w.setCell ⟨c, 0, none⟩ (.int .i64 0)).rowIs c 3 (m + 1) (half A B i 0 cv) := by
  refine (h.set 0 _).congr fun x hx => ?_
  by_cases e : x = 0
  · subst e; simp [half, Plain.lc_zero]
  · rw [if_neg e]; simp [half, e]

theorem half_step {w : World} {c m i j : Nat} {A B : List Zid} {cv : Nat → Int} {v : Int} (h : w.rowIs c 3 (m + 1) (half A B i j cv)) (hv : v = (Plain.lc A B (i + 1) (j + 1) : Int)) : (w.setCell ⟨c, j + 1, none⟩ (.int .i64 v)).rowIs c 3 (m + 1) (half A B i (j + 1) cv) := by
  refine (h.set (j + 1) _).congr fun x hx => ?_
  by_cases e : x = j + 1
  · subst e; simp [half, hv]
  · rw [if_neg e]
    unfold half
    by_cases h1 : x ≤ j
    · rw [if_pos h1, if_pos (by omega)]
    · rw [if_neg h1, if_neg (by omega)]

theorem half_done {w : World} {c m i : Nat} {A B : List Zid} {cv : Nat → Int} (h : w.rowIs c 3 (m + 1) (half A B i m cv)) : w.rowIs c 3 (m + 1) (fun x => .int .i64 (Plain.lc A B (i + 1) x : Int)) :=
  h.congr fun x hx => by unfold half; rw [if_pos (by omega)]

/-- The two rows. -/
structure Two (w wr : World) (p c m : Nat) (f g : Nat → Value) : Prop where
  ne : p ≠ c
  pb : w.heap.size ≤ p
  cb : w.heap.size ≤ c
  prow : wr.rowIs p 3 (m + 1) f
  crow : wr.rowIs c 3 (m + 1) g
  below : Below w.heap.size w wr

theorem Two.drewN {w wr : World} {p c m : Nat} {f g : Nat → Value} (h : Two w wr p c m f g) (q : Nat) : Two w (wr.drewN q) p c m f g := ⟨h.ne, h.pb, h.cb, h.prow, h.crow, below_drewN h.below q⟩

theorem Two.set {w wr : World} {p c m k : Nat} {f g g' : Nat → Value} {v : Value} (h : Two w wr p c m f g) (hg : (wr.setCell ⟨c, k, none⟩ v).rowIs c 3 (m + 1) g') : Two w (wr.setCell ⟨c, k, none⟩ v) p c m f g' :=
  ⟨h.ne, h.pb, h.cb, h.prow.setOther h.ne v, hg, h.below.setCell h.cb v⟩

theorem Two.swap {w wr : World} {p c m : Nat} {f g : Nat → Value} (h : Two w wr p c m f g) : Two w wr c p m g f := ⟨h.ne.symm, h.cb, h.pb, h.crow, h.prow, h.below⟩

theorem two_start (w : World) (A B : List Zid) (m : Nat) : Two w ((w.alloc (.cells (madeCells #[.int .i64 0] (m + 1)) 3)).alloc (.cells (madeCells #[.int .i64 0] (m + 1)) 3)) w.heap.size (w.heap.size + 1) m (fun x => .int .i64 (Plain.lc A B 0 x : Int)) (fun _ => .int .i64 0) where
  ne := by omega
  pb := Nat.le_refl _
  cb := by omega
  prow := ((World.rowIs_made w (.int .i64 0) (m + 1) 3).alloc _).congr fun x hx => by simp [Plain.lc]
  crow := by
    have := World.rowIs_made (w.alloc (.cells (madeCells #[.int .i64 0] (m + 1)) 3)) (.int .i64 0) (m + 1) 3
    simpa using this
  below := ((Below.refl _ _).alloc (Nat.le_refl _) _).alloc (by simp) _

theorem lc_next (A B : List Zid) (i j : Nat) : Plain.lc A B (i + 1) (j + 1) = if A[i]? = B[j]? then Plain.lc A B i j + 1 else if Plain.lc A B (i + 1) j ≤ Plain.lc A B i (j + 1) then Plain.lc A B i (j + 1) else Plain.lc A B (i + 1) j := rfl

set_option maxRecDepth 100000 in
set_option maxHeartbeats 1000000 in
theorem lcs_any (ao : Option Addr) (n ca : Nat) (bo : Option Addr) (m cb : Nat) (A B : List Zid) (w : World) (ha : ZRow w ao n A) (hb : ZRow w bo m B) (hn : n ≤ 1048576) (hm : m ≤ 1048576) :
    Calls Try.prog 8 #[.slice ao n ca, .slice bo m cb] w fun e w' => e = .returned (.int .i64 (Plain.lc A B n m : Int)) ∧ Below w.heap.size w w' := by
  have hmk := run_make_row' (P := Try.prog) 44 3 (.int .i64 0) 8 Try.underlying44 Try.info3 rfl .i64 .i64 (m + 1) (by omega) (by omega)
  rw [show ((m + 1 : Nat) : Int) = (m : Int) + 1 by omega] at hmk
  go_enter Try.func8, Try.ntmps8
  go_wp2_with fail
  have T0 := two_start w A B m
  generalize (w.alloc (.cells (madeCells #[.int .i64 0] (m + 1)) 3)).alloc (.cells (madeCells #[.int .i64 0] (m + 1)) 3) = w0 at T0 ⊢
  clear hmk
  go_loopw [5, 6, 7] (fun vp vc vi wr => ∃ (i p c : Nat) (cv : Nat → Int), i ≤ n ∧ vi = .int .i64 i ∧ vp = .slice (some ⟨p, 0, none⟩) (m + 1) (m + 1) ∧ vc = .slice (some ⟨c, 0, none⟩) (m + 1) (m + 1) ∧ Two w wr p c m (fun x => .int .i64 (Plain.lc A B i x : Int)) (fun x => .int .i64 (cv x))) (fun _ _ i _ => n - (intOf i).toNat)
  case atStart => exact ⟨0, _, _, fun _ => 0, Nat.zero_le _, rfl, rfl, rfl, T0⟩
  case round =>
    clear T0
    obtain ⟨i, p, c, cv, hin, rfl, rfl, rfl, T1⟩ := hrel
    by_cases hlt : i < n
    · have k0 := T1.crow.cell (i := 0) (by omega)
      have f0 := T1.crow.frozen 0
      have T2 := T1.set (half_start (A := A) (B := B) (i := i) T1.crow)
      go_wp2_with fail
      generalize wr.setCell ⟨c, 0, none⟩ (.int .i64 0) = w1 at T2 ⊢
      clear T1 k0 f0
      go_loopw [8] (fun vj wi => ∃ j : Nat, j ≤ m ∧ vj = .int .i64 j ∧ Two w wi p c m (fun x => .int .i64 (Plain.lc A B i x : Int)) (half A B i j cv)) (fun j _ => m - (intOf j).toNat)
      case atStart => exact ⟨0, Nat.zero_le _, rfl, T2⟩
      case round =>
        clear T2
        obtain ⟨j, hjm, rfl, T3⟩ := hrel
        by_cases hjl : j < m
        · obtain ⟨hal, ha2⟩ := ha.below T3.below
          obtain ⟨hbl, hb2⟩ := hb.below T3.below
          rcases ha2 with h0 | ⟨ab, aoff, hao, ha2⟩
          · omega
          rcases hb2 with h0 | ⟨bb, boff, hbo, hb2⟩
          · omega
          subst hao hbo
          obtain ⟨z, hz⟩ : ∃ z, A[i]? = some z := ⟨_, List.getElem?_eq_getElem (by omega)⟩
          obtain ⟨y, hy⟩ : ∃ y, B[j]? = some y := ⟨_, List.getElem?_eq_getElem (by omega)⟩
          obtain ⟨z0, z1, z2, z3⟩ := ha2 i z hz
          obtain ⟨y0, y1, y2, y3⟩ := hb2 j y hy
          have pj := T3.prow.cell (i := j) (by omega)
          have pj1 := T3.prow.cell (i := j + 1) (by omega)
          have cj := T3.crow.cell (i := j) (by omega)
          have cj1 := T3.crow.cell (i := j + 1) (by omega)
          have fj1 := T3.crow.frozen (j + 1)
          unfold half at cj cj1
          rw [if_pos (Nat.le_refl _)] at cj
          rw [if_neg (by omega)] at cj1
          have hnext := lc_next A B i j
          have b1 := lc_le A B i j
          have b2 := lc_le A B i (j + 1)
          have b3 := lc_le A B (i + 1) j
          generalize e1 : Plain.lc A B i j = x1 at pj hnext b1
          generalize e2 : Plain.lc A B i (j + 1) = x2 at pj1 hnext b2
          generalize e3 : Plain.lc A B (i + 1) j = x3 at cj hnext b3
          rw [hz, hy] at hnext
          have hne := T3.ne
          clear ha2 hb2 hal hbl hz hy e1 e2 e3
          have he := eql25
          by_cases hzy : z = y
          · have hq := zeq_true hzy
            rw [if_pos (by rw [hzy])] at hnext
            have T4 := T3.set (half_step (v := (x1 : Int) + 1) T3.crow (by rw [hnext]; omega))
            clear hzy hnext
            go_wp2_with fail
            go_quiet (fail)
            go_wp2_with fail
            go_roundw
            case rel => exact ⟨j + 1, by omega, by go_num, T4.drewN _⟩
            case measure => simp [intOf]; omega
          · have hq := zeq_false hzy
            rw [if_neg (by simpa using hzy)] at hnext
            clear hzy
            by_cases hge : x3 ≤ x2
            · rw [if_pos hge] at hnext
              have T4 := T3.set (half_step (v := (x2 : Int)) T3.crow (by rw [hnext]))
              clear hnext
              go_wp2_with fail
              go_quiet (fail)
              go_wp2_with fail
              go_quiet (fail)
              go_wp2_with fail
              go_roundw
              case rel => exact ⟨j + 1, by omega, by go_num, T4.drewN _⟩
              case measure => simp [intOf]; omega
            · rw [if_neg hge] at hnext
              have T4 := T3.set (half_step (v := (x3 : Int)) T3.crow (by rw [hnext]))
              clear hnext
              go_wp2_with fail
              go_quiet (fail)
              go_wp2_with fail
              go_quiet (fail)
              go_wp2_with fail
              go_roundw
              case rel => exact ⟨j + 1, by omega, by go_num, T4.drewN _⟩
              case measure => simp [intOf]; omega
        · obtain rfl : m = j := by omega
          have T4 : Two w _ p c m (fun x => .int .i64 (Plain.lc A B i x : Int)) (fun x => .int .i64 (Plain.lc A B (i + 1) x : Int)) := ⟨T3.ne, T3.pb, T3.cb, T3.prow, half_done T3.crow, T3.below⟩
          clear T3 hjm
          go_wp2_with fail
          go_roundw
          case rel => exact ⟨i + 1, c, p, fun x => (Plain.lc A B i x : Int), by omega, by go_num, rfl, rfl, T4.swap⟩
          case measure => simp [intOf]; omega
    · obtain rfl : n = i := by omega
      have kk := T1.prow.cell (i := m) (by omega)
      clear hin
      go_wp2_with fail
      go_ret
      exact ⟨rfl, T1.below⟩

end Go.Proofs.Qxb6618312a
