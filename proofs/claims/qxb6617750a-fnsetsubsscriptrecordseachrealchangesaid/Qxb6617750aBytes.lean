import Derived.Test.Qxb6617750aClone
namespace Go.Proofs.Qxb6617750a
open Go.RowKit

/-- The slice of slices at 'ao', of length n: row r is '.slice (A r) (L r) (C r)'. -/
def TabAt (w : World) (ao : Option Addr) (n : Nat) (A : Nat → Option Addr) (L C : Nat → Nat) : Prop :=
  n = 0 ∨ ∃ b off, ao = some ⟨b, off, none⟩ ∧ ∀ r, r < n → w.cell? ⟨b, off + r, none⟩ = some (.slice (A r) (L r) (C r))

theorem TabAt.below {w w' : World} {ao : Option Addr} {n : Nat} {A : Nat → Option Addr} {L C : Nat → Nat} (h : TabAt w ao n A L C) (hb : Below w.heap.size w w') : TabAt w' ao n A L C := by
  rcases h with h0 | ⟨b, off, e, hc⟩
  · exact .inl h0
  · refine .inr ⟨b, off, e, fun i hi => ?_⟩
    rw [hb.cell (p := ⟨b, off + i, none⟩) (World.block_lt_of_cell? w _ (hc i hi))]
    exact hc i hi

def RetIf (p : Prop) (e : Ending) : Prop := ∃ b, e = .returned (.bool b) ∧ (b = true → p)

set_option maxHeartbeats 400000 in
theorem bytes_any (ao bo co : Option Addr) (n ca m cb s cc : Nat) (A : Nat → Option Addr) (L C : Nat → Nat) (w : World) (ht : TabAt w co s A L C)
    (hn : n ≤ maxLen) (hm : m ≤ maxLen) (hs : s ≤ maxLen) (hL : ∀ r, r < s → L r ≤ maxLen) :
    Calls Try.prog 4 #[.slice ao n ca, .slice bo m cb, .slice co s cc] w fun e w' => RetIf (∀ r, r < s → L r ≤ 1048576) e ∧ w' = w := by
  unfold maxLen at hn hm hs hL
  go_enter Try.func4, Try.ntmps4
  go_wp2
  all_goals first
    | (go_ret; exact ⟨⟨_, rfl, fun h => by cases h⟩, rfl⟩)
    | skip
  rcases ht with h0 | ⟨b, off, rfl, ht⟩
  · subst h0
    refine wp_loop_rounds 1 ?_; rw [rounds_succ]
    go_wp2
    go_ret
    exact ⟨⟨_, rfl, fun _ r hr => by omega⟩, rfl⟩
  · go_loop [7, 8] (fun z i => ∃ k : Nat, ∃ t : Int, k ≤ s ∧ i = .int .i64 k ∧ z = .int .i64 t ∧ 0 ≤ t ∧ t ≤ 1048576 ∧ Hid (∀ r, r < k → L r ≤ 1048576)) (fun _ i => s - (intOf i).toNat)
    case atStart => exact ⟨0, _, Nat.zero_le _, rfl, rfl, by omega, by omega, by intro r hr; omega⟩
    case round =>
      obtain ⟨k, t, hk, rfl, rfl, ht0, ht1, HL⟩ := hrel
      by_cases hlt : k < s
      · have hc := ht k hlt
        have hl := hL k hlt
        clear ht hL
        go_wp2
        all_goals first
          | (go_ret; exact ⟨⟨_, rfl, fun h => by cases h⟩, rfl⟩)
          | skip
        go_round
        case rel => exact ⟨k + 1, _, by omega, by go_num, rfl, by omega, by omega, fun r hr => by
          by_cases e : r = k
          · subst e; omega
          · exact HL.out r (by omega)⟩
        case measure => simp [intOf]; omega
      · have H2 : Hid (∀ r, r < s → L r ≤ 1048576) := fun r hr => HL.out r (by omega)
        clear HL
        go_wp2
        go_ret
        exact ⟨⟨_, rfl, fun _ => H2.out⟩, rfl⟩

end Go.Proofs.Qxb6617750a
