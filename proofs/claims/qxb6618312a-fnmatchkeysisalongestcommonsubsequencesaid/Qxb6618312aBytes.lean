import Derived.Test.Qxb6618312aParts
namespace Go.Proofs.Qxb6618312a
open Go.RowKit

/-- The strings of the first k identities are short. -/
def Small (A : List Zid) (k : Nat) : Prop := ∀ (i : Nat) (z : Zid), i < k → A[i]? = some z → z.1.size ≤ 1048576 ∧ z.2.2.1.size ≤ 1048576

theorem Small.next {A : List Zid} {k : Nat} {z : Zid} (h : Small A k) (hz : A[k]? = some z) (h1 : z.1.size ≤ 1048576) (h2 : z.2.2.1.size ≤ 1048576) : Small A (k + 1) := by
  intro i y hi hy
  by_cases e : i = k
  · subst e
    rw [hz] at hy
    obtain rfl := Option.some.inj hy
    exact ⟨h1, h2⟩
  · exact h i y (by omega) hy

def RetIf (p : Prop) (e : Ending) : Prop := ∃ b, e = .returned (.bool b) ∧ (b = true → p)

theorem ZAt.c2' {w : World} {b off : Nat} {z : Zid} (h : ZAt w b off z) : w.cell? ⟨b, off + 2, none⟩ = some (.string z.2.2.1) := h.c2
theorem ZAt.c3' {w : World} {b off : Nat} {z : Zid} (h : ZAt w b off z) : w.cell? ⟨b, off + 3, none⟩ = some (.int .i64 z.2.2.2) := h.c3

set_option maxRecDepth 100000 in
set_option maxHeartbeats 1000000 in
theorem bytes_any (ao : Option Addr) (n ca : Nat) (x1 x2 : Bool) (bo : Option Addr) (m cb : Nat) (x3 x4 : Bool) (A B : List Zid) (w : World) (ha : ZRow w ao n A) (hb : ZRow w bo m B) (hn : n ≤ maxLen) (hm : m ≤ maxLen)
    (hA : ∀ z ∈ A, z.1.size ≤ maxLen ∧ z.2.2.1.size ≤ maxLen) (hB : ∀ z ∈ B, z.1.size ≤ maxLen ∧ z.2.2.1.size ≤ maxLen) :
    Calls Try.prog 4 #[.slice ao n ca, .bool x1, .bool x2, .slice bo m cb, .bool x3, .bool x4] w fun e w' => RetIf (Small A n ∧ Small B m) e ∧ w' = w := by
  unfold maxLen at hn hm hA hB
  have HA : Hid (∀ z ∈ A, z.1.size ≤ 2 ^ 63 - 1 ∧ z.2.2.1.size ≤ 2 ^ 63 - 1) := hA
  have HB : Hid (∀ z ∈ B, z.1.size ≤ 2 ^ 63 - 1 ∧ z.2.2.1.size ≤ 2 ^ 63 - 1) := hB
  clear hA hB
  obtain ⟨hal, ha⟩ := ha
  obtain ⟨hbl, hb⟩ := hb
  have HAL : Hid (A.length = n) := hal
  have HBL : Hid (B.length = m) := hbl
  clear hal hbl
  go_enter Try.func4, Try.ntmps4
  go_wp2_with fail
  all_goals first
    | (go_ret; exact ⟨⟨_, rfl, fun h => by cases h⟩, rfl⟩)
    | skip
  go_loop [13, 14] (fun z i => ∃ k : Nat, ∃ t : Int, k ≤ n ∧ i = .int .i64 k ∧ z = .int .i64 t ∧ 0 ≤ t ∧ t ≤ 1048576 ∧ Hid (Small A k)) (fun _ i => n - (intOf i).toNat)
  case atStart => exact ⟨0, _, Nat.zero_le _, rfl, rfl, by omega, by omega, by intro r z hr; omega⟩
  case round =>
    obtain ⟨k, t, hk, rfl, rfl, ht0, ht1, HS⟩ := hrel
    by_cases hlt : k < n
    · rcases ha with h0 | ⟨b, off, rfl, ha⟩
      · omega
      obtain ⟨z, hz⟩ : ∃ z, A[k]? = some z := ⟨_, List.getElem?_eq_getElem (by rw [HAL.out]; omega)⟩
      have za := ha k z hz
      obtain ⟨q1, q2⟩ := HA.out z (List.mem_of_getElem? hz)
      have c0 := za.c0
      have c2 := za.c2'
      have HZ : Hid (A[k]? = some z) := hz
      clear ha za hz
      go_wp2_with fail
      all_goals first
        | (go_ret; exact ⟨⟨_, rfl, fun h => by cases h⟩, rfl⟩)
        | skip
      go_round
      case rel => exact ⟨k + 1, _, by omega, by go_num, rfl, by omega, by omega, HS.out.next HZ.out (by omega) (by omega)⟩
      case measure => simp [intOf]; omega
    · obtain rfl : n = k := by omega
      clear hk
      go_wp2_with fail
      all_goals first
        | (go_ret; exact ⟨⟨_, rfl, fun h => by cases h⟩, rfl⟩)
        | skip
      go_loop [13, 15] (fun z i => ∃ k : Nat, ∃ t : Int, k ≤ m ∧ i = .int .i64 k ∧ z = .int .i64 t ∧ 0 ≤ t ∧ t ≤ 1048576 ∧ Hid (Small B k)) (fun _ i => m - (intOf i).toNat)
      case atStart => exact ⟨0, _, Nat.zero_le _, rfl, rfl, by omega, by omega, by intro r z hr; omega⟩
      case round =>
        obtain ⟨k, t, hk, rfl, rfl, ht0, ht1, HS2⟩ := hrel
        by_cases hlt : k < m
        · rcases hb with h0 | ⟨b, off, rfl, hb⟩
          · omega
          obtain ⟨z, hz⟩ : ∃ z, B[k]? = some z := ⟨_, List.getElem?_eq_getElem (by rw [HBL.out]; omega)⟩
          have za := hb k z hz
          obtain ⟨q1, q2⟩ := HB.out z (List.mem_of_getElem? hz)
          have c0 := za.c0
          have c2 := za.c2'
          have HZ : Hid (B[k]? = some z) := hz
          clear hb za hz
          go_wp2_with fail
          all_goals first
            | (go_ret; exact ⟨⟨_, rfl, fun h => by cases h⟩, rfl⟩)
            | skip
          go_round
          case rel => exact ⟨k + 1, _, by omega, by go_num, rfl, by omega, by omega, HS2.out.next HZ.out (by omega) (by omega)⟩
          case measure => simp [intOf]; omega
        · obtain rfl : m = k := by omega
          go_wp2_with fail
          go_ret
          exact ⟨⟨_, rfl, fun _ => ⟨HS.out, HS2.out⟩⟩, rfl⟩

end Go.Proofs.Qxb6618312a
