import Derived.Test.Qxb6617716aReplay
namespace Go.Proofs.Qxb6617716a
open Go.RowKit

theorem applied_any (lo r pb q c n m : Nat) (su : Value) (ap : Option Addr) (P : Nat → Bool) (La Lo : Nat → Nat) (C : Chs) (k : Nat) (w : World) (h : Rep w lo r pb q c n m su ap P La Lo C k) :
    Calls Try.prog 12 #[.pointer (some ⟨r, 0, none⟩)] w fun e w' => e = .returned (.int .i64 (k : Int)) ∧ w' = w := by
  have hc := h.c4
  clear h
  go_enter Try.func12, Try.ntmps12
  go_wp2
  go_ret
  exact ⟨rfl, rfl⟩

theorem present_any (lo r pb q c n m : Nat) (su : Value) (ap : Option Addr) (P : Nat → Bool) (La Lo : Nat → Nat) (C : Chs) (k : Nat) (w : World) (h : Rep w lo r pb q c n m su ap P La Lo C k) :
    Calls Try.prog 14 #[.pointer (some ⟨r, 0, none⟩)] w fun e w' => e = .returned (.slice ap n n) ∧ w' = w := by
  have hc := h.c1
  clear h
  go_enter Try.func14, Try.ntmps14
  go_wp2
  go_ret
  exact ⟨rfl, rfl⟩

set_option maxHeartbeats 1000000 in
theorem posLat_any (lo r pb q c n m : Nat) (su : Value) (ap : Option Addr) (P : Nat → Bool) (La Lo : Nat → Nat) (C : Chs) (k : Nat) (w : World) (hn : n ≤ 1048576) (h : Rep w lo r pb q c n m su ap P La Lo C k) :
    Calls Try.prog 15 #[.pointer (some ⟨r, 0, none⟩)] w fun e w' => ∃ bo, e = .returned (.slice bo n n) ∧ Owned w' w.heap.size 36 bo n (fun i => .float .f64 (La i)) ∧ Below w.heap.size w w' := by
  have hmk := run_make_row' (P := Try.prog) 24 36 (.float .f64 0) 8 Try.underlying24 Try.info36 rfl .i64 .i64 n (by omega) (by omega)
  have hc2 := h.c2
  have hrl := h.lt
  have hpos := h.pos
  clear h
  go_enter Try.func15, Try.ntmps15
  go_wp2
  go_loopw [4] (fun i wr => ∃ j : Nat, j ≤ n ∧ i = .int .i64 j ∧ wr.rowIs w.heap.size 36 n (fun i => if i < j then .float .f64 (La i) else .float .f64 0) ∧ Below w.heap.size w wr) (fun i _ => n - (intOf i).toNat)
  case atStart => exact ⟨0, Nat.zero_le _, rfl, (World.rowIs_made w _ n 36).congr (fun i hi => by simp), (Below.refl _ _).alloc (Nat.le_refl _) _⟩
  case round =>
    obtain ⟨j, hj, rfl, hrow, hbel⟩ := hrel
    have hc2' := (hbel.cell (p := ⟨r, 2, none⟩) hrl).trans hc2
    have hpos' := hpos.of_block (hbel.block q hpos.lt)
    by_cases hlt : j < n
    · have hcl := hpos'.cell (i := j * 2) (by omega)
      rw [pcell0] at hcl
      have hc3 := hrow.cell hlt
      have hfz := hrow.frozen j
      clear hpos hpos' hc2
      go_wp2
      go_roundw
      case rel => exact ⟨j + 1, by omega, by go_num, clone_step (f := fun i => .float .f64 (La i)) hrow, hbel.setCell (Nat.le_refl _) _⟩
      case measure => simp [intOf]; omega
    · clear hpos hpos' hc2
      go_wp2
      go_ret
      exact ⟨_, rfl, .inr ⟨_, rfl, Nat.le_refl _, hrow.congr fun i hi => by rw [if_pos (by omega)]⟩, hbel⟩

set_option maxHeartbeats 1000000 in
theorem posLon_any (lo r pb q c n m : Nat) (su : Value) (ap : Option Addr) (P : Nat → Bool) (La Lo : Nat → Nat) (C : Chs) (k : Nat) (w : World) (hn : n ≤ 1048576) (h : Rep w lo r pb q c n m su ap P La Lo C k) :
    Calls Try.prog 16 #[.pointer (some ⟨r, 0, none⟩)] w fun e w' => ∃ bo, e = .returned (.slice bo n n) ∧ Owned w' w.heap.size 36 bo n (fun i => .float .f64 (Lo i)) ∧ Below w.heap.size w w' := by
  have hmk := run_make_row' (P := Try.prog) 24 36 (.float .f64 0) 8 Try.underlying24 Try.info36 rfl .i64 .i64 n (by omega) (by omega)
  have hc2 := h.c2
  have hrl := h.lt
  have hpos := h.pos
  clear h
  go_enter Try.func16, Try.ntmps16
  go_wp2
  go_loopw [4] (fun i wr => ∃ j : Nat, j ≤ n ∧ i = .int .i64 j ∧ wr.rowIs w.heap.size 36 n (fun i => if i < j then .float .f64 (Lo i) else .float .f64 0) ∧ Below w.heap.size w wr) (fun i _ => n - (intOf i).toNat)
  case atStart => exact ⟨0, Nat.zero_le _, rfl, (World.rowIs_made w _ n 36).congr (fun i hi => by simp), (Below.refl _ _).alloc (Nat.le_refl _) _⟩
  case round =>
    obtain ⟨j, hj, rfl, hrow, hbel⟩ := hrel
    have hc2' := (hbel.cell (p := ⟨r, 2, none⟩) hrl).trans hc2
    have hpos' := hpos.of_block (hbel.block q hpos.lt)
    by_cases hlt : j < n
    · have hcl := hpos'.cell (i := j * 2 + 1) (by omega)
      rw [pcell1] at hcl
      have hc3 := hrow.cell hlt
      have hfz := hrow.frozen j
      clear hpos hpos' hc2
      go_wp2
      go_roundw
      case rel => exact ⟨j + 1, by omega, by go_num, clone_step (f := fun i => .float .f64 (Lo i)) hrow, hbel.setCell (Nat.le_refl _) _⟩
      case measure => simp [intOf]; omega
    · clear hpos hpos' hc2
      go_wp2
      go_ret
      exact ⟨_, rfl, .inr ⟨_, rfl, Nat.le_refl _, hrow.congr fun i hi => by rw [if_pos (by omega)]⟩, hbel⟩

end Go.Proofs.Qxb6617716a
