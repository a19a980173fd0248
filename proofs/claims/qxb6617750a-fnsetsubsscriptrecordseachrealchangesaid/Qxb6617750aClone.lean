import Derived.Test.Qxb6617750aSame
import Derived.Deep.OwnRows
namespace Go.Proofs.Qxb6617750a
open Go.RowKit

theorem Try.info3 : (Try.prog.info? 3).map (fun i => (i.zero, i.size, i.bytes)) = some (some (.int .i64 0), 1, 8) := by kernel_rfl

theorem owns_of_rowIs {w : World} {base b n : Nat} {f : Nat → Value} {xs : List Int} (h : w.rowIs b 3 n f) (hl : xs.length = n) (hf : ∀ i, i < n → f i = .int .i64 (xs.getD i 0)) (hb : base ≤ b) (hm : n ≤ maxLen) :
    w.ownsRow base 3 1 (.slice (some ⟨b, 0, none⟩) n n) n (xs.map (Value.int .i64)) := by
  obtain ⟨c, hc, hs, hi⟩ := h
  refine ⟨by simpa using hl, .inr ⟨b, n, c, rfl, hb, hc, Nat.le_refl _, hm, by simpa using hs, ?_⟩⟩
  apply List.ext_getElem?
  intro j
  by_cases hj : j < n
  · rw [List.getElem?_take, if_pos (by omega)]
    have := hi j hj
    rw [hf j hj] at this
    simp only [Array.getElem?_toList, this]
    simp [List.getD, show j < xs.length by omega]
  · rw [List.getElem?_take, if_neg (by omega)]
    simp only [List.getElem?_map]
    rw [List.getElem?_eq_none (by omega)]
    rfl

theorem clone_step {w : World} {b n k : Nat} {xs : List Int} (h : w.rowIs b 3 n (fun i => if i < k then .int .i64 (xs.getD i 0) else .int .i64 0)) :
    (w.setCell ⟨b, k, none⟩ (.int .i64 (xs[k]?.getD 0))).rowIs b 3 n (fun i => if i < k + 1 then .int .i64 (xs.getD i 0) else .int .i64 0) := by
  refine (h.set k _).congr fun i hi => ?_
  by_cases e : i = k
  · subst e; simp
  · simp only [if_neg e]
    by_cases h1 : i < k
    · rw [if_pos h1, if_pos (by omega)]
    · rw [if_neg h1, if_neg (by omega)]

set_option maxHeartbeats 400000 in
theorem cloneInts_any (ao : Option Addr) (n ca : Nat) (xs : List Int) (w : World) (hx : RowAt w ao n xs) (hca : n ≤ ca) (hn : n ≤ 1099511627776) (hnil : ao = none → ca = 0) :
    Calls Try.prog 6 #[.slice ao n ca] w fun e w' => ∃ v, e = .returned v ∧ w'.ownsRow w.heap.size 3 1 v n (xs.map (Value.int .i64)) ∧ Below w.heap.size w w' := by
  obtain ⟨hxl, hx⟩ := hx
  have HX : Hid (xs.length = n) := hxl
  clear hxl
  have heq := fun wx : World => fun a : Option Addr => Lib.run_eql_slice_nil (P := Try.prog) wx 22 3 a n ca 0 0 Try.underlying22
  have hmk := run_make_row' (P := Try.prog) 22 3 (.int .i64 0) 8 Try.underlying22 Try.info3 rfl .i64 .i64 n (by omega) (by omega)
  cases ao with
  | none =>
    obtain rfl : ca = 0 := hnil rfl
    obtain rfl : n = 0 := by omega
    clear hnil
    have e : xs = [] := List.eq_nil_of_length_eq_zero HX.out
    subst e
    go_enter Try.func6, Try.ntmps6
    go_wp2
    go_ret
    exact ⟨_, rfl, World.ownsRow_nil _ _ _ _, Below.refl _ _⟩
  | some a =>
    clear hnil
    go_enter Try.func6, Try.ntmps6
    go_wp2
    go_loopw [4] (fun i wr => ∃ k : Nat, k ≤ n ∧ i = .int .i64 k ∧ wr.rowIs w.heap.size 3 n (fun i => if i < k then .int .i64 (xs.getD i 0) else .int .i64 0) ∧ Below w.heap.size w wr) (fun i _ => n - (intOf i).toNat)
    case atStart => exact ⟨0, Nat.zero_le _, rfl, (World.rowIs_made w _ n 3).congr (fun i hi => by simp), (Below.refl _ _).alloc (Nat.le_refl _) _⟩
    case round =>
      obtain ⟨k, hk, rfl, hrow, hbel⟩ := hrel
      by_cases hlt : k < n
      · rcases hx with h0 | ⟨b, off, hae, hx⟩
        · omega
        · obtain rfl := Option.some.inj hae
          have hc := hx k hlt
          have hcl : wr.cell? ⟨b, off + k, none⟩ = some (.int .i64 (xs.getD k 0)) := (hbel.cell (p := ⟨b, off + k, none⟩) (World.block_lt_of_cell? w _ hc)).trans hc
          have hc2 := hrow.cell hlt
          have hfz := hrow.frozen k
          clear hc hx
          go_wp2
          go_roundw
          case rel => exact ⟨k + 1, by omega, by go_num, clone_step hrow, hbel.setCell (Nat.le_refl _) _⟩
          case measure => simp [intOf]; omega
      · go_wp2
        go_ret
        exact ⟨_, rfl, owns_of_rowIs hrow HX.out (fun i hi => by rw [if_pos (by omega)]) (Nat.le_refl _) (by unfold maxLen; omega), hbel⟩

end Go.Proofs.Qxb6617750a
