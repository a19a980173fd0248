import Derived.Test.Qxb6617750aParts
import Derived.Deep.QuietTactic
import Derived.BigQuiet
namespace Go.Proofs.Qxb6617750a
open Go.RowKit

theorem same_eq {xs ys : List Int} {n : Nat} (hx : xs.length = n) (hy : ys.length = n) (h : ∀ j, j < n → xs.getD j 0 = ys.getD j 0) : xs = ys := by
  apply List.ext_getElem (by omega)
  intro i h1 h2
  have := h i (by omega)
  simpa [List.getD, h1, h2] using this

theorem same_ne {xs ys : List Int} {k : Nat} (h : xs.getD k 0 ≠ ys.getD k 0) : xs ≠ ys := by
  intro e; subst e; exact h rfl

theorem next_same {xs ys : List Int} {k : Nat} (h : ∀ j, j < k → xs.getD j 0 = ys.getD j 0) (e : xs[k]?.getD 0 = ys[k]?.getD 0) : Hid (∀ j, j < k + 1 → xs.getD j 0 = ys.getD j 0) := by
  intro j hj
  by_cases hjk : j = k
  · subst hjk; simpa using e
  · exact h j (by omega)

theorem drewN_add (w : World) (q n : Nat) : (w.drewN q).drewN n = w.drewN (q + n) := by
  simp [World.drewN, Nat.add_assoc]

set_option maxHeartbeats 400000 in
theorem sameInts_any (ao bo : Option Addr) (n ca m cb : Nat) (xs ys : List Int) (w : World) (hx : RowAt w ao n xs) (hy : RowAt w bo m ys) (hn : n ≤ 1099511627776) (hm : m ≤ 1099511627776) :
    Calls Try.prog 8 #[.slice ao n ca, .slice bo m cb] w fun e w' => e = .returned (.bool (decide (xs = ys))) ∧ ∃ q, w' = w.drewN q := by
  obtain ⟨hxl, hx⟩ := hx
  obtain ⟨hyl, hy⟩ := hy
  by_cases hnm : n = m
  · subst hnm
    have HX : Hid (xs.length = n) := hxl; have HY : Hid (ys.length = n) := hyl; clear hxl hyl
    rcases hx with h0 | ⟨b, off, rfl, hx⟩
    · subst h0
      go_enter Try.func8, Try.ntmps8
      go_wp2
      refine wp_loop_rounds 1 ?_; rw [rounds_succ]
      go_wp2
      go_ret
      have e : xs = ys := same_eq HX.out HY.out (by omega)
      exact ⟨ret_bool (by simp [e]), 0, rfl⟩
    · rcases hy with h0 | ⟨b', off', rfl, hy⟩
      · subst h0
        go_enter Try.func8, Try.ntmps8
        go_wp2
        refine wp_loop_rounds 1 ?_; rw [rounds_succ]
        go_wp2
        go_ret
        have e : xs = ys := same_eq HX.out HY.out (by omega)
        exact ⟨ret_bool (by simp [e]), 0, rfl⟩
      · go_enter Try.func8, Try.ntmps8
        go_wp2
        go_loopw [5] (fun i wr => ∃ k q : Nat, k ≤ n ∧ i = .int .i64 k ∧ wr = w.drewN q ∧ Hid (∀ j, j < k → xs.getD j 0 = ys.getD j 0)) (fun i _ => n - (intOf i).toNat)
        case atStart => exact ⟨0, 0, Nat.zero_le _, rfl, rfl, by intro j hj; omega⟩
        case round =>
          obtain ⟨k, q, hk, rfl, rfl, H⟩ := hrel
          by_cases hlt : k < n
          · have h1 := hx k hlt
            have h2 := hy k hlt
            clear hx hy
            go_wp2
            go_quiet (fail)
            go_wp2
            · go_ret
              have e : xs ≠ ys := same_ne (k := k) (by have h : (xs[k]?.getD 0 != ys[k]?.getD 0) = true := by assumption
                                                       simpa using h)
              exact ⟨ret_bool (by simp [e]), q + nq, (drewN_add w q nq)⟩
            · have h : (xs[k]?.getD 0 != ys[k]?.getD 0) = false := by assumption
              go_roundw
              case rel => exact ⟨k + 1, q + nq, by omega, by go_num, rfl, next_same H.out (by simpa using h)⟩
              case measure => simp [intOf]; omega
          · go_wp2
            go_ret
            have e : xs = ys := same_eq HX.out HY.out (fun j hj => H.out j (by omega))
            exact ⟨ret_bool (by simp [e]), q, rfl⟩
  · have hne : xs ≠ ys := by intro e; subst e; omega
    clear hxl hyl
    go_enter Try.func8, Try.ntmps8
    go_wp2
    go_ret
    exact ⟨ret_bool (by simp [hne]), 0, rfl⟩

set_option maxHeartbeats 400000 in
theorem equal_any (ao bo : Option Addr) (n ca m cb : Nat) (xs ys : List Int) (w : World) (hx : RowAt w ao n xs) (hy : RowAt w bo m ys) (hn : n ≤ 1099511627776) (hm : m ≤ 1099511627776) :
    Calls Try.prog 12 #[.slice ao n ca, .slice bo m cb] w fun e w' => e = .returned (.bool (decide (xs = ys))) ∧ ∃ q, w' = w.drewN q := by
  obtain ⟨hxl, hx⟩ := hx
  obtain ⟨hyl, hy⟩ := hy
  by_cases hnm : n = m
  · subst hnm
    have HX : Hid (xs.length = n) := hxl; have HY : Hid (ys.length = n) := hyl; clear hxl hyl
    rcases hx with h0 | ⟨b, off, rfl, hx⟩
    · subst h0
      go_enter Try.func12, Try.ntmps12
      go_wp2
      refine wp_loop_rounds 1 ?_; rw [rounds_succ]
      go_wp2
      go_ret
      have e : xs = ys := same_eq HX.out HY.out (by omega)
      exact ⟨ret_bool (by simp [e]), 0, rfl⟩
    · rcases hy with h0 | ⟨b', off', rfl, hy⟩
      · subst h0
        go_enter Try.func12, Try.ntmps12
        go_wp2
        refine wp_loop_rounds 1 ?_; rw [rounds_succ]
        go_wp2
        go_ret
        have e : xs = ys := same_eq HX.out HY.out (by omega)
        exact ⟨ret_bool (by simp [e]), 0, rfl⟩
      · go_enter Try.func12, Try.ntmps12
        go_wp2
        go_loopw [13] (fun i wr => ∃ k q : Nat, k ≤ n ∧ i = .int .i64 k ∧ wr = w.drewN q ∧ Hid (∀ j, j < k → xs.getD j 0 = ys.getD j 0)) (fun i _ => n - (intOf i).toNat)
        case atStart => exact ⟨0, 0, Nat.zero_le _, rfl, rfl, by intro j hj; omega⟩
        case round =>
          obtain ⟨k, q, hk, rfl, rfl, H⟩ := hrel
          by_cases hlt : k < n
          · have h1 := hx k hlt
            have h2 := hy k hlt
            clear hx hy
            go_wp2
            go_quiet (fail)
            go_wp2
            · go_ret
              have e : xs ≠ ys := same_ne (k := k) (by have h : (xs[k]?.getD 0 != ys[k]?.getD 0) = true := by assumption
                                                       simpa using h)
              exact ⟨ret_bool (by simp [e]), q + nq, (drewN_add w q nq)⟩
            · have h : (xs[k]?.getD 0 != ys[k]?.getD 0) = false := by assumption
              go_roundw
              case rel => exact ⟨k + 1, q + nq, by omega, by go_num, rfl, next_same H.out (by simpa using h)⟩
              case measure => simp [intOf]; omega
          · go_wp2
            go_ret
            have e : xs = ys := same_eq HX.out HY.out (fun j hj => H.out j (by omega))
            exact ⟨ret_bool (by simp [e]), q, rfl⟩
  · have hne : xs ≠ ys := by intro e; subst e; omega
    clear hxl hyl
    go_enter Try.func12, Try.ntmps12
    go_wp2
    go_ret
    exact ⟨ret_bool (by simp [hne]), 0, rfl⟩

end Go.Proofs.Qxb6617750a
