import Derived.Test.Qxb6617716aReplay
namespace Go.Proofs.Qxb6617716a
open Go.RowKit

set_option maxRecDepth 100000 in
set_option maxHeartbeats 2000000 in
theorem newReplay_any (uo ap o2 o3 o4 o5 o6 o7 o8 : Option Addr) (un n m c0 c2 c3 c4 c5 c6 c7 c8 k lo : Nat) (P : Nat → Bool) (La Lo : Nat → Nat) (C : Chs) (w : World) (hn : n ≤ 1048576) (hm : m ≤ 1048576)
    (h1 : Owned w lo 4 ap n (fun i => .bool (P i))) (h2 : Reads w o2 n (fun i => .float .f64 (La i))) (h3 : Reads w o3 n (fun i => .float .f64 (Lo i)))
    (h4 : Reads w o4 m (fun i => .int .i64 (C.at' i))) (h5 : Reads w o5 m (fun i => .int .i64 (C.us i))) (h6 : Reads w o6 m (fun i => .bool (C.lv i)))
    (h7 : Reads w o7 m (fun i => .float .f64 (C.la i))) (h8 : Reads w o8 m (fun i => .float .f64 (C.lo i))) (hlo : lo ≤ w.heap.size) :
    Calls Try.prog 10 #[.slice uo un c0, .slice ap n n, .slice o2 n c2, .slice o3 n c3, .slice o4 m c4, .slice o5 m c5, .slice o6 m c6, .slice o7 m c7, .slice o8 m c8, .int .i64 (k : Int)] w fun e w' =>
      RetRep w' lo n m P La Lo C k e ∧ Below w.heap.size w w' := by
  have hmk1 := make42 n (by omega)
  have hmk2 := make45 m (by omega)
  go_enter Try.func10, Try.ntmps10
  go_wp2
  go_loopw [22] (fun i wr => ∃ j : Nat, j ≤ n ∧ i = .int .i64 (j : Int) ∧ wr.rowIs w.heap.size 42 (n * 2) (pcopy La Lo j) ∧ Below w.heap.size w wr) (fun i _ => n - (intOf i).toNat)
  case atStart => exact ⟨0, Nat.zero_le _, rfl, pcopy_made _ _ _ _, (Below.refl _ _).alloc (Nat.le_refl _) _⟩
  case round =>
    obtain ⟨j, hj, rfl, hrow, hbel⟩ := hrel
    by_cases hlt : j < n
    · have h2' := h2.below (Nat.le_refl _) hbel
      have h3' := h3.below (Nat.le_refl _) hbel
      rcases h2' with h0 | ⟨b2, off2, rfl, h2'⟩
      · omega
      rcases h3' with h0 | ⟨b3, off3, rfl, h3'⟩
      · omega
      have e2 := h2' j hlt
      have e3 := h3' j hlt
      have q0 := hrow.cell (i := j * 2) (by omega)
      have q1 := hrow.cell (i := j * 2 + 1) (by omega)
      have z0 := hrow.frozen (j * 2)
      have z1 := hrow.frozen (j * 2 + 1)
      have hrow' := pcopy_step hrow
      have hbel' := (hbel.setCell (p := ⟨w.heap.size, j * 2, none⟩) (Nat.le_refl _) (.float .f64 (La j))).setCell (p := ⟨w.heap.size, j * 2 + 1, none⟩) (Nat.le_refl _) (.float .f64 (Lo j))
      clear h1 h2 h3 h4 h5 h6 h7 h8 h2' h3' hrow hbel
      go_wp2
      go_region
      go_wp2
      go_roundw
      case rel => exact ⟨j + 1, by omega, by go_num, hrow', hbel'.drew⟩
      case measure => simp [intOf]; omega
    · obtain rfl : j = n := by omega
      have hpos : wr.rowIs w.heap.size 42 (j * 2) (pcell La Lo) := hrow.congr fun i hi => by unfold pcopy; rw [if_pos (by omega)]
      have hsz := hpos.lt
      clear hrow h2 h3 hlt
      have h4' := h4.below (Nat.le_refl _) hbel
      have h5' := h5.below (Nat.le_refl _) hbel
      have h6' := h6.below (Nat.le_refl _) hbel
      have h7' := h7.below (Nat.le_refl _) hbel
      have h8' := h8.below (Nat.le_refl _) hbel
      clear h4 h5 h6 h7 h8
      generalize wr = w1 at *
      have hq : lo ≤ w.heap.size := hlo
      go_wp2
      go_loopw [24] (fun i wq => ∃ l : Nat, l ≤ m ∧ i = .int .i64 (l : Int) ∧ wq.rowIs w1.heap.size 45 (m * 5) (ccopy C l) ∧ Below w1.heap.size w1 wq) (fun i _ => m - (intOf i).toNat)
      case atStart => exact ⟨0, Nat.zero_le _, rfl, ccopy_made _ _ _, (Below.refl _ _).alloc (Nat.le_refl _) _⟩
      case round =>
        obtain ⟨l, hl, rfl, hrow, hb2⟩ := hrel
        by_cases hlt : l < m
        · have g4 := h4'.below (Nat.le_refl _) hb2
          have g5 := h5'.below (Nat.le_refl _) hb2
          have g6 := h6'.below (Nat.le_refl _) hb2
          have g7 := h7'.below (Nat.le_refl _) hb2
          have g8 := h8'.below (Nat.le_refl _) hb2
          rcases g4 with h0 | ⟨b4, off4, rfl, g4⟩
          · omega
          rcases g5 with h0 | ⟨b5, off5, rfl, g5⟩
          · omega
          rcases g6 with h0 | ⟨b6, off6, rfl, g6⟩
          · omega
          rcases g7 with h0 | ⟨b7, off7, rfl, g7⟩
          · omega
          rcases g8 with h0 | ⟨b8, off8, rfl, g8⟩
          · omega
          have e4 := g4 l hlt
          have e5 := g5 l hlt
          have e6 := g6 l hlt
          have e7 := g7 l hlt
          have e8 := g8 l hlt
          have q0 := hrow.cell (i := l * 5) (by omega)
          have q1 := hrow.cell (i := l * 5 + 1) (by omega)
          have q2 := hrow.cell (i := l * 5 + 2) (by omega)
          have q3 := hrow.cell (i := l * 5 + 3) (by omega)
          have q4 := hrow.cell (i := l * 5 + 4) (by omega)
          have z0 := hrow.frozen (l * 5)
          have z1 := hrow.frozen (l * 5 + 1)
          have z2 := hrow.frozen (l * 5 + 2)
          have z3 := hrow.frozen (l * 5 + 3)
          have z4 := hrow.frozen (l * 5 + 4)
          have hrow' := ccopy_step hrow
          have hb2' := ((((hb2.setCell (p := ⟨w1.heap.size, l * 5, none⟩) (Nat.le_refl _) (.int .i64 (C.at' l))).setCell (p := ⟨w1.heap.size, l * 5 + 1, none⟩) (Nat.le_refl _) (.int .i64 (C.us l))).setCell (p := ⟨w1.heap.size, l * 5 + 2, none⟩) (Nat.le_refl _) (.bool (C.lv l))).setCell (p := ⟨w1.heap.size, l * 5 + 3, none⟩) (Nat.le_refl _) (.float .f64 (C.la l))).setCell (p := ⟨w1.heap.size, l * 5 + 4, none⟩) (Nat.le_refl _) (.float .f64 (C.lo l))
          clear h1 h4' h5' h6' h7' h8' g4 g5 g6 g7 g8 hrow hb2 hbel hpos
          go_wp2
          go_region
          go_wp2
          go_roundw
          case rel => exact ⟨l + 1, by omega, by go_num, hrow', hb2'.drew⟩
          case measure => simp [intOf]; omega
        · obtain rfl : l = m := by omega
          have hchg : wr.rowIs w1.heap.size 45 (l * 5) (ccell C) := hrow.congr fun i hi => by unfold ccopy; rw [if_pos (by omega)]
          have hposq := hpos.of_block (hb2.block _ hpos.lt)
          have hbw : Below w.heap.size w wr := hbel.trans (hb2.mono hbel.size)
          have hsz2 := hchg.lt
          clear hrow h4' h5' h6' h7' h8' hlt hpos hb2 hbel hmk1 hmk2
          go_wp2
          go_ret
          refine ⟨?_, hbw.alloc hbw.size _⟩
          rcases h1 with h0 | ⟨pb, e, hpb, hr⟩
          · exact ⟨_, 0, _, _, _, _, rfl, Go.heap_alloc_new _ _, .inl h0, hposq.alloc _, hchg.alloc _, hlo, by omega, by omega⟩
          · exact ⟨_, pb, _, _, _, _, rfl, Go.heap_alloc_new _ _, .inr ⟨e, hpb, hr.lt, (hr.of_block (hbw.block pb hr.lt)).alloc _⟩, hposq.alloc _, hchg.alloc _, hlo, by omega, by omega⟩

end Go.Proofs.Qxb6617716a
