import Derived.Test.Qxb6617716aParts
import Derived.Test.Qxb6617716aPlain
import Derived.Laws.Cover2
namespace Go.Proofs.Qxb6617716a
open Go.RowKit

set_option maxHeartbeats 400000 in
theorem sameF_self (a : Nat) (w : World) : Calls Try.prog 17 #[.float .f64 a, .float .f64 a] w fun e w' => e = .returned (.bool true) ∧ w' = w := by
  by_cases h : (FloatKind.f64.format.order a a == some .eq) = true
  · have h2 : (FloatKind.f64.format.order a a != some .eq) = false := by simpa [bne] using h
    go_enter Try.func17, Try.ntmps17
    go_wp2
    go_ret
    exact ⟨rfl, rfl⟩
  · have h1 : (FloatKind.f64.format.order a a == some .eq) = false := by simpa using h
    have h2 : (FloatKind.f64.format.order a a != some .eq) = true := by simpa [bne] using h
    clear h
    go_enter Try.func17, Try.ntmps17
    go_wp2
    go_ret
    exact ⟨rfl, rfl⟩

def RetI (x : Nat) (e : Ending) : Prop := e = .returned (.int .i64 (x : Int))

set_option maxHeartbeats 400000 in
theorem reach_any (ao : Option Addr) (m c a : Nat) (at' : Nat → Int) (t : Int) (w : World) (hx : Reads w ao m (fun i => .int .i64 (at' i))) (hm : m ≤ 1048576) (ha : a ≤ m) :
    Calls Try.prog 9 #[.slice ao m c, .int .i64 (a : Int), .int .i64 t] w fun e w' => RetI (Plain.reach at' m a t) e ∧ w' = w := by
  go_enter Try.func9, Try.ntmps9
  go_wp2
  go_loopw [7, 8] (fun n i wr => ∃ k q : Nat, k ≤ m ∧ q ≤ k ∧ n = .int .i64 (q : Int) ∧ i = .int .i64 (k : Int) ∧ Hid (q = Plain.cnt at' t k) ∧ wr = w) (fun _ i _ => m - (intOf i).toNat)
  case atStart => exact ⟨0, 0, Nat.zero_le _, Nat.zero_le _, rfl, rfl, rfl, rfl⟩
  case round =>
    obtain ⟨k, q, hk, hq, rfl, rfl, HQ, rfl⟩ := hrel
    by_cases hlt : k < m
    · rcases hx with h0 | ⟨b, off, hae, hx⟩
      · omega
      · subst hae
        have hc := hx k hlt
        clear hx
        by_cases hle : at' k ≤ t
        · have HN : Hid (q + 1 = Plain.cnt at' t (k + 1)) := by
            show _ = (if at' k ≤ t then _ else _)
            rw [if_pos hle, HQ.out]
          go_wp2
          go_roundw
          case rel => exact ⟨k + 1, q + 1, by omega, by omega, by go_num, by go_num, HN, trivial⟩
          case measure => simp [intOf]; omega
        · have HN : Hid (q = Plain.cnt at' t (k + 1)) := by
            show _ = (if at' k ≤ t then _ else _)
            rw [if_neg hle, HQ.out]
          go_wp2
          go_roundw
          case rel => exact ⟨k + 1, q, by omega, by omega, by go_num, by go_num, HN, trivial⟩
          case measure => simp [intOf]; omega
    · obtain rfl : k = m := by omega
      by_cases hqa : q < a
      · have HE : Hid (Plain.reach at' k a t = a) := by
          show (if _ then _ else _) = _
          rw [← HQ.out, if_pos hqa]
        clear HQ
        go_wp2
        go_ret
        exact ⟨by rw [HE.out]; rfl, rfl⟩
      · have HE : Hid (Plain.reach at' k a t = q) := by
          show (if _ then _ else _) = _
          rw [← HQ.out, if_neg hqa]
        clear HQ
        go_wp2
        go_ret
        exact ⟨by rw [HE.out]; rfl, rfl⟩

set_option maxRecDepth 100000 in
set_option maxHeartbeats 1000000 in
theorem stateIs_same (po lo mo qo ro so : Option Addr) (n c1 c2 c3 c4 c5 c6 : Nat) (P : Nat → Bool) (La Lo : Nat → Nat) (w : World) (hn : n ≤ 1048576)
    (h1 : Reads w po n (fun i => .bool (P i))) (h2 : Reads w lo n (fun i => .float .f64 (La i))) (h3 : Reads w mo n (fun i => .float .f64 (Lo i)))
    (h4 : Reads w qo n (fun i => .bool (P i))) (h5 : Reads w ro n (fun i => .float .f64 (La i))) (h6 : Reads w so n (fun i => .float .f64 (Lo i))) :
    Calls Try.prog 13 #[.slice po n c1, .slice lo n c2, .slice mo n c3, .slice qo n c4, .slice ro n c5, .slice so n c6] w fun e w' => e = .returned (.bool true) ∧ ∃ q, w' = w.drewN q := by
  go_enter Try.func13, Try.ntmps13
  go_wp2
  go_loopw [13] (fun i wr => ∃ k q : Nat, k ≤ n ∧ i = .int .i64 (k : Int) ∧ wr = w.drewN q) (fun i _ => n - (intOf i).toNat)
  case atStart => exact ⟨0, 0, Nat.zero_le _, rfl, rfl⟩
  case round =>
    obtain ⟨k, q, hk, rfl, rfl⟩ := hrel
    by_cases hlt : k < n
    · rcases h1 with h0 | ⟨b, off, rfl, h1⟩
      · omega
      rcases h4 with h0 | ⟨b', off', rfl, h4⟩
      · omega
      have e1 := h1 k hlt
      have e4 := h4 k hlt
      clear h1 h4 h2 h3 h5 h6
      go_wp2
      go_quiet (fail)
      go_wp2
      go_roundw
      case rel => exact ⟨k + 1, q + nq, by omega, by go_num, rfl⟩
      case measure => simp [intOf]; omega
    · clear h1 h4
      go_wp2
      go_loopw [14] (fun i wr => ∃ k q : Nat, k ≤ n ∧ i = .int .i64 (k : Int) ∧ wr = w.drewN q) (fun i _ => n - (intOf i).toNat)
      case atStart => exact ⟨0, q, Nat.zero_le _, rfl, rfl⟩
      case round =>
        clear hlt hk
        obtain ⟨k2, q2, hk2, rfl, rfl⟩ := hrel
        by_cases hlt : k2 < n
        · rcases h2 with h0 | ⟨b, off, rfl, h2⟩
          · omega
          rcases h3 with h0 | ⟨b3, off3, rfl, h3⟩
          · omega
          rcases h5 with h0 | ⟨b5, off5, rfl, h5⟩
          · omega
          rcases h6 with h0 | ⟨b6, off6, rfl, h6⟩
          · omega
          have e2 := h2 k2 hlt
          have e3 := h3 k2 hlt
          have e5 := h5 k2 hlt
          have e6 := h6 k2 hlt
          clear h2 h3 h5 h6
          go_wp2
          go_quiet ((go_at_call 17; exact (sameF_self _ _).mono fun _ _ h => ⟨h.1, _, h.2⟩))
          go_wp2
          go_roundw
          case rel => exact ⟨k2 + 1, q2 + nq, by omega, by go_num, rfl⟩
          case measure => simp [intOf]; omega
        · go_wp2
          go_ret
          exact ⟨rfl, q2, rfl⟩

end Go.Proofs.Qxb6617716a
