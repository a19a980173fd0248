import Derived.Test.Qxb6618313aTail
namespace Go.Proofs.Qxb6618313a
open Go.RowKit

theorem olds_last (X : Nat → Int) (k : Nat) : olds X k ++ [.int .i64 (X k)] = olds X (k + 1) := by
  simp [olds, List.range_succ]

set_option maxRecDepth 1000000 in
set_option maxHeartbeats 4000000 in
theorem law_any (w : World) (n D n2 n3 : Nat) (X V : Nat → Int) (Q O : Nat → Bool) (o0 o1 o2 o3 : Option Addr) (c0 c1 c2 c3 : Nat)
    (r0 : Reads w o0 n (fun i => .int .i64 (X i))) (r1 : Reads w o1 D (fun i => .bool (Q i))) (r2 : Reads w o2 n2 (fun i => .int .i64 (V i))) (r3 : Reads w o3 n3 (fun i => .bool (O i)))
    (h0 : n ≤ c0) (h1 : D ≤ c1) (h2 : n2 ≤ c2) (h3 : n3 ≤ c3) (z0 : o0 = none → c0 = 0) (z1 : o1 = none → c1 = 0) (z2 : o2 = none → c2 = 0) (z3 : o3 = none → c3 = 0) (y0 : n ≤ maxLen) (y1 : D ≤ maxLen) (y2 : n2 ≤ maxLen) (y3 : n3 ≤ maxLen) :
    Calls Try.prog 3 #[.slice o0 n c0, .slice o1 D c1, .slice o2 n2 c2, .slice o3 n3 c3] w fun e w' => e = .returned (.bool true) ∧ Below w.heap.size w w' := by
  obtain ⟨i0, hi, hz0, hz1, hz2⟩ := info_parts Try.info3
  have HH : Hid (n ≤ c0 ∧ D ≤ c1 ∧ n2 ≤ c2 ∧ n3 ≤ c3) := ⟨h0, h1, h2, h3⟩
  have HZ : Hid ((o0 = none → c0 = 0) ∧ (o1 = none → c1 = 0) ∧ (o2 = none → c2 = 0) ∧ (o3 = none → c3 = 0)) := ⟨z0, z1, z2, z3⟩
  clear h0 z0 h1 z1 h2 z2 h3 z3
  go_enter Try.func3, Try.ntmps3
  go_wp2_with fail
  refine (bytes_any o0 o1 o2 o3 n D n2 n3 c0 c1 c2 c3 w y0 y1 y2 y3).mono ?_
  rintro e wq ⟨⟨bb, rfl⟩, hw⟩
  obtain rfl := hw.symm
  clear hw y0 y1 y2 y3
  cases bb with
  | false =>
    go_wp2_with fail
    go_ret
    exact ⟨rfl, Below.refl _ _⟩
  | true =>
    by_cases l0 : n ≤ 4096
    case neg =>
      go_wp2_with fail
      go_ret
      exact ⟨rfl, Below.refl _ _⟩
    by_cases l1 : D ≤ 4096
    case neg =>
      go_wp2_with fail
      go_ret
      exact ⟨rfl, Below.refl _ _⟩
    by_cases l2 : n2 ≤ 4096
    case neg =>
      go_wp2_with fail
      go_ret
      exact ⟨rfl, Below.refl _ _⟩
    by_cases l3 : n3 ≤ 4096
    case neg =>
      go_wp2_with fail
      go_ret
      exact ⟨rfl, Below.refl _ _⟩
    by_cases q2 : n2 = D
    case neg =>
      go_wp2_with fail
      go_ret
      exact ⟨rfl, Below.refl _ _⟩
    replace q2 := q2.symm
    subst q2
    by_cases q3 : n3 = D
    case neg =>
      go_wp2_with fail
      go_ret
      exact ⟨rfl, Below.refl _ _⟩
    replace q3 := q3.symm
    subst q3
    have hmk := makeCap n D (by omega) (by omega)
    go_wp2_with fail
    refine (cloneI_any o0 n c0 X w r0 HH.out.1 (by omega) HZ.out.1).mono ?_
    rintro e v1 ⟨x0, rfl, O0, g0⟩
    go_wp2_with fail
    refine (cloneB_any o1 D c1 Q v1 (r1.below (Nat.le_refl _) g0) HH.out.2.1 (by omega) HZ.out.2.1).mono ?_
    rintro e v2 ⟨x1, rfl, O1, g1⟩
    have b2 := g0.trans (g1.mono g0.size)
    go_wp2_with fail
    refine (cloneI_any o2 D c2 V v2 (r2.below (Nat.le_refl _) b2) HH.out.2.2.1 (by omega) HZ.out.2.2.1).mono ?_
    rintro e v3 ⟨x2, rfl, O2, g2⟩
    have b3 := b2.trans (g2.mono b2.size)
    go_wp2_with fail
    refine (cloneB_any o3 D c3 O v3 (r3.below (Nat.le_refl _) b3) HH.out.2.2.2 (by omega) HZ.out.2.2.2).mono ?_
    rintro e w1 ⟨x3, rfl, O3, g3⟩
    have b4 := b3.trans (g3.mono b3.size)
    have e2 := g3
    have e1 := g2.trans (e2.mono g2.size)
    have e0 := g1.trans (e1.mono g1.size)
    have R0 := O0.reads.below (Nat.le_refl _) e0
    have R1 := O1.reads.below (Nat.le_refl _) e1
    have R2 := O2.reads.below (Nat.le_refl _) e2
    have R3 := O3.reads
    have HI0 := hist_new w1 (n + D) (by unfold maxLen; omega) X
    have hb0 : Below w1.heap.size w1 (w1.alloc (.cells (madeCells #[.int .i64 0] (n + D)) 3)) := (Below.refl _ _).alloc (Nat.le_refl _) _
    clear O0 O1 O2 O3 g0 g1 g2 g3 b2 b3 e0 e1 e2 r0 r1 r2 r3
    go_wp2_with fail
    go_loopw [9, 10] (fun hv i wr => ∃ (k g cap : Nat), k ≤ n ∧ hv = .slice (some ⟨g, 0, none⟩) k cap ∧ i = .int .i64 (k : Int) ∧ Hist wr w1.heap.size g k cap X ∧ Below w1.heap.size w1 wr) (fun _ i _ => n - (intOf i).toNat)
    case atStart => exact ⟨0, _, _, Nat.zero_le _, rfl, rfl, HI0, hb0⟩
    case round =>
      clear HI0 hb0 hmk
      obtain ⟨k, g, cap, hk, rfl, rfl, HI, hb⟩ := hrel
      by_cases hlt : k < n
      · have R0' := R0.below (Nat.le_refl _) hb
        rcases R0' with h0 | ⟨b0, f0, y0, R0'⟩
        · omega
        have ex : wr.cell? ⟨b0, f0 + k, none⟩ = some (.int .i64 (X k)) := R0' k hlt
        have HB : Hid (w1.heap.size ≤ g) := HI.bounds.2.2.1
        clear R0 R0' R1 R2 R3
        subst y0
        go_wp2_with (at_builtin; refine wpList_append_own2 _ rfl _ _ 22 rfl w1.heap.size 3 i0 (.int .i64 0) 1 8 Try.underlying22 hi hz0 hz1 hz2 rfl (by decide) _ k (olds X k) rfl (HI.own.alloc _) ⟨wr.heap.size, 0, none⟩ 1 1 [.int .i64 (X k)] rfl rfl ?qa1 ?qa2 ?qa3 ?qa4 ?qa5 ?_)
        case qa1 => exact one_new _ _ _
        case qa2 => intro x hx; simp at hx; subst hx; rfl
        case qa3 => unfold maxLen; omega
        case qa4 => omega
        case qa5 => exact Nat.le_trans hb.size (by simp)
        intro v' w4 hown hgrow _
        obtain ⟨g', cap', hv', HI4⟩ := Hist.of_owns hown
        subst hv'
        have hb4 : Below w1.heap.size w1 w4 := (hb.alloc hb.size _).grown hgrow (Nat.le_trans hb.size (by simp)) (fun k hk => by cases hk; exact HB.out)
        have hX : olds (fun i => if i < k then X i else X k) (k + 1) = olds X (k + 1) := by rw [← olds_snoc, olds_last]
        have HI5 : Hist w4 w1.heap.size g' (k + 1) cap' X := ⟨by have := HI4.own; rw [hX] at this; exact this⟩
        clear HI4 hX hown hgrow HI hb
        go_wp2_with fail
        go_roundw
        case rel => exact ⟨k + 1, g', cap', by omega, rfl, by go_num, HI5, hb4⟩
        case measure => simp [intOf]; omega
      · obtain rfl : k = n := by omega
        rename_i K hK hx
        clear hx
        have HK : Hid _ := hK
        clear hK
        go_wp2_with fail
        exact HK.out _ _ (tail22 w w1 _ k D g cap x0 x1 x2 x3 X V Q O b4 hb R0 R1 R2 R3 HI (by omega) (by omega) _ _ _ _ _ _ _ _ _ _ _ _ _ _ _ _ _ _ _ _ _ _ _ _ _ _ _ _ _ _ _ _ _ _ _ _ _ _ _ _ _ _ _ _ _ _ _ _ _ _ _ _ _ _ _ _ _ _ _ _ _ _ _ _ _ _ _ _ _ _ _ _ _ _ _ _ _ _ _ _ _ _ _ _ _ _ _ _ _ _ _ _ _ _ _ _ _ _ _ _ _ _ _ _ _ _ _ _ _ _ _ _ _ _ _ _ _ _ _ _ _ _ _ _ _ _ _ _ _ _ _ _ _ _ _ _ _ _ _ _ _ _ _ _ _ _ _ _ _ _ _)

end Go.Proofs.Qxb6618313a
