import Derived.Test.Qxb6618313aRows
import Derived.WalkKit
import Derived.WalkSpells
import Derived.WalkLawsBesides
import Derived.Deep.OwnRows
import Derived.Deep.QuietTactic
import Derived.BigQuiet
namespace Go.Proofs.Qxb6618313a
open Go.RowKit

/-- The slice at 'ao', of n cells, reads f. -/
def Reads (w : World) (ao : Option Addr) (n : Nat) (f : Nat → Value) : Prop :=
  n = 0 ∨ ∃ b off, ao = some ⟨b, off, none⟩ ∧ ∀ i, i < n → w.cell? ⟨b, off + i, none⟩ = some (f i)

/-- A row of one's own: the blocks from B on. -/
def Owned (w : World) (B : Nat) (t : TypeId) (ao : Option Addr) (n : Nat) (f : Nat → Value) : Prop :=
  n = 0 ∨ ∃ b, ao = some ⟨b, 0, none⟩ ∧ B ≤ b ∧ w.rowIs b t n f

theorem Reads.below {w w' : World} {ao : Option Addr} {n : Nat} {f : Nat → Value} (h : Reads w ao n f) {B : Nat} (hB : w.heap.size ≤ B) (hb : Below B w w') : Reads w' ao n f := by
  rcases h with h0 | ⟨b, off, e, hc⟩
  · exact .inl h0
  · refine .inr ⟨b, off, e, fun i hi => ?_⟩
    have h1 := hc i hi
    rw [hb.cell (p := ⟨b, off + i, none⟩) (Nat.lt_of_lt_of_le (World.block_lt_of_cell? w _ h1) hB)]
    exact h1

theorem Owned.reads {w : World} {B : Nat} {t : TypeId} {ao : Option Addr} {n : Nat} {f : Nat → Value} (h : Owned w B t ao n f) : Reads w ao n f := by
  rcases h with h0 | ⟨b, e, _, hr⟩
  · exact .inl h0
  · exact .inr ⟨b, 0, e, fun i hi => by rw [Nat.zero_add]; exact hr.cell hi⟩

theorem Owned.nil {w : World} {B : Nat} {t : TypeId} {ao : Option Addr} {n : Nat} {f : Nat → Value} (h : Owned w B t ao n f) (e : ao = none) : n = 0 := by
  rcases h with h0 | ⟨b, e', _⟩
  · exact h0
  · rw [e] at e'; cases e'

theorem Owned.below {w w' : World} {B : Nat} {t : TypeId} {ao : Option Addr} {n : Nat} {f : Nat → Value} (h : Owned w B t ao n f) (hb : Below w.heap.size w w') : Owned w' B t ao n f := by
  rcases h with h0 | ⟨b, e, hB, hr⟩
  · exact .inl h0
  · exact .inr ⟨b, e, hB, hr.of_block (hb.block b hr.lt)⟩

theorem Owned.mono {w : World} {B B' : Nat} {t : TypeId} {ao : Option Addr} {n : Nat} {f : Nat → Value} (h : Owned w B t ao n f) (hB : B' ≤ B) : Owned w B' t ao n f := by
  rcases h with h0 | ⟨b, e, hb, hr⟩
  · exact .inl h0
  · exact .inr ⟨b, e, Nat.le_trans hB hb, hr⟩

theorem below_drewN {B : Nat} {a w : World} (h : Below B a w) (q : Nat) : Below B a (w.drewN q) := ⟨h.os, h.tape, h.output, h.size, h.block⟩

theorem Try.info3 : (Try.prog.info? 3).map (fun i => (i.zero, i.size, i.bytes)) = some (some (.int .i64 0), 1, 8) := by kernel_rfl
theorem Try.info4 : (Try.prog.info? 4).map (fun i => (i.zero, i.size, i.bytes)) = some (some (.bool false), 1, 1) := by kernel_rfl

theorem clone_step {w : World} {b t n k : Nat} {f : Nat → Value} {z : Value} (h : w.rowIs b t n (fun i => if i < k then f i else z)) :
    (w.setCell ⟨b, k, none⟩ (f k)).rowIs b t n (fun i => if i < k + 1 then f i else z) := by
  refine (h.set k _).congr fun i hi => ?_
  by_cases e : i = k
  · subst e; simp
  · simp only [if_neg e]
    by_cases h1 : i < k
    · rw [if_pos h1, if_pos (by omega)]
    · rw [if_neg h1, if_neg (by omega)]

set_option maxHeartbeats 400000 in
theorem cloneI_any (ao : Option Addr) (n ca : Nat) (x : Nat → Int) (w : World) (hx : Reads w ao n (fun i => .int .i64 (x i))) (hca : n ≤ ca) (hn : n ≤ 1099511627776) (hnil : ao = none → ca = 0) :
    Calls Try.prog 6 #[.slice ao n ca] w fun e w' => ∃ bo, e = .returned (.slice bo n n) ∧ Owned w' w.heap.size 3 bo n (fun i => .int .i64 (x i)) ∧ Below w.heap.size w w' := by
  have heq := fun wx : World => fun a : Option Addr => Lib.run_eql_slice_nil (P := Try.prog) wx 22 3 a n ca 0 0 Try.underlying22
  have hmk := run_make_row' (P := Try.prog) 22 3 (.int .i64 0) 8 Try.underlying22 Try.info3 rfl .i64 .i64 n (by omega) (by omega)
  cases ao with
  | none =>
    obtain rfl : ca = 0 := hnil rfl
    obtain rfl : n = 0 := by omega
    clear hnil
    go_enter Try.func6, Try.ntmps6
    go_wp2
    go_ret
    exact ⟨_, rfl, .inl rfl, Below.refl _ _⟩
  | some a =>
    clear hnil
    go_enter Try.func6, Try.ntmps6
    go_wp2
    go_loopw [4] (fun i wr => ∃ k : Nat, k ≤ n ∧ i = .int .i64 k ∧ wr.rowIs w.heap.size 3 n (fun i => if i < k then .int .i64 (x i) else .int .i64 0) ∧ Below w.heap.size w wr) (fun i _ => n - (intOf i).toNat)
    case atStart => exact ⟨0, Nat.zero_le _, rfl, (World.rowIs_made w _ n 3).congr (fun i hi => by simp), (Below.refl _ _).alloc (Nat.le_refl _) _⟩
    case round =>
      obtain ⟨k, hk, rfl, hrow, hbel⟩ := hrel
      by_cases hlt : k < n
      · rcases hx with h0 | ⟨b, off, hae, hx⟩
        · omega
        · obtain rfl := Option.some.inj hae
          have hc := hx k hlt
          have hcl : wr.cell? ⟨b, off + k, none⟩ = some (.int .i64 (x k)) := (hbel.cell (p := ⟨b, off + k, none⟩) (World.block_lt_of_cell? w _ hc)).trans hc
          have hc2 := hrow.cell hlt
          have hfz := hrow.frozen k
          clear hc hx
          go_wp2
          go_roundw
          case rel => exact ⟨k + 1, by omega, by go_num, clone_step (f := fun i => .int .i64 (x i)) hrow, hbel.setCell (Nat.le_refl _) _⟩
          case measure => simp [intOf]; omega
      · go_wp2
        go_ret
        exact ⟨_, rfl, .inr ⟨_, rfl, Nat.le_refl _, hrow.congr fun i hi => by rw [if_pos (by omega)]⟩, hbel⟩

set_option maxHeartbeats 400000 in
theorem cloneB_any (ao : Option Addr) (n ca : Nat) (x : Nat → Bool) (w : World) (hx : Reads w ao n (fun i => .bool (x i))) (hca : n ≤ ca) (hn : n ≤ 1099511627776) (hnil : ao = none → ca = 0) :
    Calls Try.prog 7 #[.slice ao n ca] w fun e w' => ∃ bo, e = .returned (.slice bo n n) ∧ Owned w' w.heap.size 4 bo n (fun i => .bool (x i)) ∧ Below w.heap.size w w' := by
  have heq := fun wx : World => fun a : Option Addr => Lib.run_eql_slice_nil (P := Try.prog) wx 23 4 a n ca 0 0 Try.underlying23
  have hmk := run_make_row' (P := Try.prog) 23 4 (.bool false) 1 Try.underlying23 Try.info4 rfl .i64 .i64 n (by omega) (by omega)
  cases ao with
  | none =>
    obtain rfl : ca = 0 := hnil rfl
    obtain rfl : n = 0 := by omega
    clear hnil
    go_enter Try.func7, Try.ntmps7
    go_wp2
    go_ret
    exact ⟨_, rfl, .inl rfl, Below.refl _ _⟩
  | some a =>
    clear hnil
    go_enter Try.func7, Try.ntmps7
    go_wp2
    go_loopw [4] (fun i wr => ∃ k : Nat, k ≤ n ∧ i = .int .i64 k ∧ wr.rowIs w.heap.size 4 n (fun i => if i < k then .bool (x i) else .bool false) ∧ Below w.heap.size w wr) (fun i _ => n - (intOf i).toNat)
    case atStart => exact ⟨0, Nat.zero_le _, rfl, (World.rowIs_made w _ n 4).congr (fun i hi => by simp), (Below.refl _ _).alloc (Nat.le_refl _) _⟩
    case round =>
      obtain ⟨k, hk, rfl, hrow, hbel⟩ := hrel
      by_cases hlt : k < n
      · rcases hx with h0 | ⟨b, off, hae, hx⟩
        · omega
        · obtain rfl := Option.some.inj hae
          have hc := hx k hlt
          have hcl : wr.cell? ⟨b, off + k, none⟩ = some (.bool (x k)) := (hbel.cell (p := ⟨b, off + k, none⟩) (World.block_lt_of_cell? w _ hc)).trans hc
          have hc2 := hrow.cell hlt
          have hfz := hrow.frozen k
          clear hc hx
          go_wp2
          go_roundw
          case rel => exact ⟨k + 1, by omega, by go_num, clone_step (f := fun i => .bool (x i)) hrow, hbel.setCell (Nat.le_refl _) _⟩
          case measure => simp [intOf]; omega
      · go_wp2
        go_ret
        exact ⟨_, rfl, .inr ⟨_, rfl, Nat.le_refl _, hrow.congr fun i hi => by rw [if_pos (by omega)]⟩, hbel⟩

def RetBool (e : Ending) : Prop := ∃ b, e = .returned (.bool b)

set_option maxRecDepth 100000 in
set_option maxHeartbeats 2000000 in
theorem bytes_any (o0 o1 o2 o3 : Option Addr) (n0 n1 n2 n3 c0 c1 c2 c3 : Nat) (w : World) (h0 : n0 ≤ maxLen) (h1 : n1 ≤ maxLen) (h2 : n2 ≤ maxLen) (h3 : n3 ≤ maxLen) :
    Calls Try.prog 5 #[.slice o0 n0 c0, .slice o1 n1 c1, .slice o2 n2 c2, .slice o3 n3 c3] w fun e w' => RetBool e ∧ w' = w := by
  unfold maxLen at h0 h1 h2 h3
  go_enter Try.func5, Try.ntmps5
  go_wp2
  all_goals (go_ret; exact ⟨⟨_, rfl⟩, rfl⟩)

theorem Reads.nil {w : World} {ao : Option Addr} {n : Nat} {f : Nat → Value} (h : Reads w ao n f) (e : ao = none) : n = 0 := by
  rcases h with h0 | ⟨b, off, e', _⟩
  · exact h0
  · rw [e] at e'; cases e'

theorem below_drew0 (w : World) (q : Nat) : Below w.heap.size w (w.drewN q) := below_drewN (Below.refl _ _) q

set_option maxHeartbeats 1000000 in
theorem same_any (po qo : Option Addr) (n c1 c2 : Nat) (X : Nat → Int) (w : World) (hn : n ≤ 1048576)
    (h1 : Reads w po n (fun i => .int .i64 (X i))) (h2 : Reads w qo n (fun i => .int .i64 (X i))) :
    Calls Try.prog 9 #[.slice po n c1, .slice qo n c2] w fun e w' => e = .returned (.bool true) ∧ ∃ q, w' = w.drewN q := by
  go_enter Try.func9, Try.ntmps9
  go_wp2
  go_loopw [5] (fun i wr => ∃ k q : Nat, k ≤ n ∧ i = .int .i64 (k : Int) ∧ wr = w.drewN q) (fun i _ => n - (intOf i).toNat)
  case atStart => exact ⟨0, 0, Nat.zero_le _, rfl, rfl⟩
  case round =>
    obtain ⟨k, q, hk, rfl, rfl⟩ := hrel
    by_cases hlt : k < n
    · rcases h1 with h0 | ⟨b, off, rfl, h1⟩
      · omega
      rcases h2 with h0 | ⟨b', off', rfl, h2⟩
      · omega
      have e1 : w.cell? ⟨b, off + k, none⟩ = some (.int .i64 (X k)) := h1 k hlt
      have e2 : w.cell? ⟨b', off' + k, none⟩ = some (.int .i64 (X k)) := h2 k hlt
      clear h1 h2
      go_wp2
      go_quiet (fail)
      go_wp2
      go_roundw
      case rel => exact ⟨k + 1, q + nq, by omega, by go_num, rfl⟩
      case measure => simp [intOf]; omega
    · go_wp2
      go_ret
      exact ⟨rfl, q, rfl⟩

set_option maxHeartbeats 400000 in
theorem clip_any (so : Option Addr) (n c : Nat) (w : World) (hc : n ≤ c) (hz : so = none → c = 0) (hn : c ≤ maxLen) :
    Calls Try.prog 13 #[.slice so n c] w fun e w' => e = .returned (.slice so n n) ∧ w' = w := by
  unfold maxLen at hn
  cases so with
  | none =>
    obtain rfl : c = 0 := hz rfl
    obtain rfl : n = 0 := by omega
    clear hz
    go_enter Try.func13, Try.ntmps13
    go_wp2
    go_ret
    exact ⟨rfl, rfl⟩
  | some a =>
    clear hz
    go_enter Try.func13, Try.ntmps13
    go_wp2
    go_ret
    exact ⟨rfl, rfl⟩

end Go.Proofs.Qxb6618313a
