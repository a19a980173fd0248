import Derived.Test.Qxb6618312aRows
import Derived.WalkKit
import Derived.WalkSpells
import Derived.WalkLawsBesides
import Derived.Deep.QuietTactic
import Derived.BigQuiet
import Derived.Outline
namespace Go.Proofs.Qxb6618312a
open Go.RowKit

set_option maxHeartbeats 400000 in
theorem makeID_any (a : ByteArray) (b : Bool) (c : ByteArray) (d : Int) (w : World) :
    Calls Try.prog 5 #[.string a, .bool b, .string c, .int .i64 d] w fun e w' => e = .returned (.agg #[.string a, .bool b, .string c, .int .i64 d]) ∧ w' = w.alloc (.cells #[.string a, .bool b, .string c, .int .i64 d] 31) := by
  go_enter Try.func5, Try.ntmps5
  go_wp2
  exact bodyPost_ret (v := .agg #[.string a, .bool b, .string c, .int .i64 d]) (by simp [results, Try.results5, go_sem]) rfl ⟨rfl, rfl⟩

set_option maxHeartbeats 400000 in
theorem matchLive_any (a b : Int) (w : World) :
    Calls Try.prog 9 #[.agg #[.int .i64 a, .int .i64 b]] w fun e w' => e = .returned (.int .i64 a) ∧ Below w.heap.size w w' := by
  go_enter Try.func9, Try.ntmps9
  go_wp2
  go_ret
  exact ⟨rfl, (Below.refl _ _).alloc (Nat.le_refl _) _⟩

set_option maxHeartbeats 400000 in
theorem matchResult_any (a b : Int) (w : World) :
    Calls Try.prog 10 #[.agg #[.int .i64 a, .int .i64 b]] w fun e w' => e = .returned (.int .i64 b) ∧ Below w.heap.size w w' := by
  go_enter Try.func10, Try.ntmps10
  go_wp2
  go_ret
  exact ⟨rfl, (Below.refl _ _).alloc (Nat.le_refl _) _⟩

set_option maxHeartbeats 400000 in
theorem makeItems_any (ao : Option Addr) (n c : Nat) (m : Option Nat) (b : Bool) (w : World) :
    Calls Try.prog 7 #[.slice ao n c, .map m, .bool b] w fun e w' => e = .returned (.agg #[.slice ao n c, .map m, .bool b]) ∧ w' = w.alloc (.cells #[.slice ao n c, .map m, .bool b] 38) := by
  go_enter Try.func7, Try.ntmps7
  go_wp2
  exact bodyPost_ret (v := .agg #[.slice ao n c, .map m, .bool b]) (by simp [results, Try.results7, go_sem]) rfl ⟨rfl, rfl⟩

abbrev Zid := ByteArray × Bool × ByteArray × Int

theorem toList_eq_iff (a b : ByteArray) : a.toList = b.toList ↔ a = b := by
  rw [ByteArray.toList_eq, ByteArray.toList_eq]
  obtain ⟨⟨x⟩⟩ := a
  obtain ⟨⟨y⟩⟩ := b
  simp

/-- Are two identities one? -/
def zeq (x y : Zid) : Bool := decide (x = y)
theorem zeq_true {x y : Zid} (h : x = y) : zeq x y = true := by simp [zeq, h]
theorem zeq_false {x y : Zid} (h : ¬ x = y) : zeq x y = false := by simp [zeq, h]

theorem eql25 (w : World) (a a' : ByteArray) (b b' : Bool) (c c' : ByteArray) (d d' : Int) :
    (binOp .eql 25 (.agg #[.string a, .bool b, .string c, .int .i64 d]) (.agg #[.string a', .bool b', .string c', .int .i64 d'])).run Try.prog w = .ok (.bool (zeq (a, b, c, d) (a', b', c', d'))) w := by
  simp [go_sem, toList_eq_iff, zeq]
  by_cases h1 : a = a' <;> by_cases h2 : b = b' <;> by_cases h3 : c = c' <;> by_cases h4 : d = d' <;> simp [h1, h2, h3, h4]

theorem eql31 (w : World) (a a' : ByteArray) (b b' : Bool) (c c' : ByteArray) (d d' : Int) :
    (binOp .eql 31 (.agg #[.string a, .bool b, .string c, .int .i64 d]) (.agg #[.string a', .bool b', .string c', .int .i64 d'])).run Try.prog w = .ok (.bool (zeq (a, b, c, d) (a', b', c', d'))) w := by
  simp [go_sem, toList_eq_iff, zeq]
  by_cases h1 : a = a' <;> by_cases h2 : b = b' <;> by_cases h3 : c = c' <;> by_cases h4 : d = d' <;> simp [h1, h2, h3, h4]

theorem neq25 (w : World) (a a' : ByteArray) (b b' : Bool) (c c' : ByteArray) (d d' : Int) :
    (binOp .neq 25 (.agg #[.string a, .bool b, .string c, .int .i64 d]) (.agg #[.string a', .bool b', .string c', .int .i64 d'])).run Try.prog w = .ok (.bool (!zeq (a, b, c, d) (a', b', c', d'))) w := by
  simp [go_sem, toList_eq_iff, zeq]
  by_cases h1 : a = a' <;> by_cases h2 : b = b' <;> by_cases h3 : c = c' <;> by_cases h4 : d = d' <;> simp [h1, h2, h3, h4]

/-- The four cells of an identity at an address. -/
structure ZAt (w : World) (b off : Nat) (z : Zid) : Prop where
  c0 : w.cell? ⟨b, off, none⟩ = some (.string z.1)
  c1 : w.cell? ⟨b, off + 1, none⟩ = some (.bool z.2.1)
  c2 : w.cell? ⟨b, off + 1 + 1, none⟩ = some (.string z.2.2.1)
  c3 : w.cell? ⟨b, off + 1 + 1 + 1, none⟩ = some (.int .i64 z.2.2.2)

theorem ZAt.of_block {w w' : World} {b off : Nat} {z : Zid} (h : ZAt w b off z) (e : w'.heap[b]? = w.heap[b]?) : ZAt w' b off z :=
  ⟨(World.cell?_of_block (a := ⟨b, off, none⟩) e).trans h.c0, (World.cell?_of_block (a := ⟨b, off + 1, none⟩) e).trans h.c1, (World.cell?_of_block (a := ⟨b, off + 1 + 1, none⟩) e).trans h.c2, (World.cell?_of_block (a := ⟨b, off + 1 + 1 + 1, none⟩) e).trans h.c3⟩

theorem ZAt.lt {w : World} {b off : Nat} {z : Zid} (h : ZAt w b off z) : b < w.heap.size := World.block_lt_of_cell? w _ h.c0

theorem ZAt.new (w : World) (z : Zid) (t : TypeId) : ZAt (w.alloc (.cells #[.string z.1, .bool z.2.1, .string z.2.2.1, .int .i64 z.2.2.2] t)) w.heap.size 0 z := by
  have e := Go.heap_alloc_new w (.cells #[.string z.1, .bool z.2.1, .string z.2.2.1, .int .i64 z.2.2.2] t)
  refine ⟨?_, ?_, ?_, ?_⟩ <;> (rw [cell_of_row _ _ _ _ _ _ e]; rfl)

/-- A slice of identities (four cells each) at 'ao', of length n, reads zs. -/
def ZRow (w : World) (ao : Option Addr) (n : Nat) (zs : List Zid) : Prop :=
  zs.length = n ∧ (n = 0 ∨ ∃ b off, ao = some ⟨b, off, none⟩ ∧ ∀ i z, zs[i]? = some z → ZAt w b (off + i * 4) z)

theorem ZRow.below {w w' : World} {ao : Option Addr} {n : Nat} {zs : List Zid} (h : ZRow w ao n zs) (hb : Below w.heap.size w w') : ZRow w' ao n zs := by
  refine ⟨h.1, ?_⟩
  rcases h.2 with h0 | ⟨b, off, e, hc⟩
  · exact .inl h0
  · exact .inr ⟨b, off, e, fun i z hz => (hc i z hz).of_block (hb.block b (hc i z hz).lt)⟩

theorem below_drewN {B : Nat} {a w : World} (h : Below B a w) (q : Nat) : Below B a (w.drewN q) := ⟨h.os, h.tape, h.output, h.size, h.block⟩

theorem ret_int {k : IntKind} {a b : Int} (h : a = b) : Ending.returned (.int k a) = .returned (.int k b) := by rw [h]

/-- What a search for v among zs says: a place of it, or -1. -/
def Found (zs : List Zid) (v : Zid) (r : Int) : Prop := (∃ i : Nat, r = i ∧ zs[i]? = some v) ∨ (r = -1 ∧ v ∉ zs)
def RetFound (zs : List Zid) (v : Zid) (e : Ending) : Prop := ∃ r, e = .returned (.int .i64 r) ∧ Found zs v r

theorem not_mem_of {zs : List Zid} {v : Zid} {n : Nat} (hl : zs.length = n) (h : ∀ j z, j < n → zs[j]? = some z → ¬ v = z) : v ∉ zs := by
  intro hm
  obtain ⟨j, hj, e⟩ := List.mem_iff_getElem.1 hm
  exact h j v (by omega) (by rw [List.getElem?_eq_getElem hj, e]) rfl

theorem next_miss {zs : List Zid} {v z : Zid} {k : Nat} (h : ∀ j z, j < k → zs[j]? = some z → ¬ v = z) (hz : zs[k]? = some z) (hne : ¬ v = z) : Hid (∀ j z, j < k + 1 → zs[j]? = some z → ¬ v = z) := by
  intro j z' hj hz'
  by_cases e : j = k
  · subst e
    rw [hz] at hz'
    obtain rfl := Option.some.inj hz'
    exact hne
  · exact h j z' (by omega) hz'

set_option maxHeartbeats 400000 in
theorem index_any (ao : Option Addr) (n c : Nat) (zs : List Zid) (v : Zid) (w : World) (hz : ZRow w ao n zs) (hn : n ≤ 1099511627776) :
    Calls Try.prog 14 #[.slice ao n c, .agg #[.string v.1, .bool v.2.1, .string v.2.2.1, .int .i64 v.2.2.2]] w fun e w' => RetFound zs v e ∧ Below w.heap.size w w' := by
  have he := eql31
  go_enter Try.func14, Try.ntmps14
  go_wp2
  have hv0 := ZAt.new w v 31
  have hb0 : Below w.heap.size w (w.alloc (.cells #[.string v.1, .bool v.2.1, .string v.2.2.1, .int .i64 v.2.2.2] 31)) := (Below.refl _ _).alloc (Nat.le_refl _) _
  have hz1 := hz.below hb0
  generalize w.alloc (.cells #[.string v.1, .bool v.2.1, .string v.2.2.1, .int .i64 v.2.2.2] 31) = w1 at hv0 hb0 hz1 ⊢
  obtain ⟨e0, e1, e2, e3⟩ := hv0
  obtain ⟨hl, hz1⟩ := hz1
  have HL : Hid (zs.length = n) := hl
  clear hz hl
  go_loopw [8] (fun i wr => ∃ k q : Nat, k ≤ n ∧ i = .int .i64 k ∧ wr = w1.drewN q ∧ Hid (∀ j z, j < k → zs[j]? = some z → ¬ v = z)) (fun i _ => n - (intOf i).toNat)
  case atStart => exact ⟨0, 0, Nat.zero_le _, rfl, rfl, fun j z hj => by omega⟩
  case round =>
    obtain ⟨k, q, hk, rfl, rfl, HM⟩ := hrel
    by_cases hlt : k < n
    · rcases hz1 with h0 | ⟨b, off, rfl, hz⟩
      · omega
      obtain ⟨z, hzk⟩ : ∃ z, zs[k]? = some z := ⟨_, List.getElem?_eq_getElem (by rw [HL.out]; omega)⟩
      obtain ⟨c0, c1, c2, c3⟩ := hz k z hzk
      have HK : Hid (zs[k]? = some z) := hzk
      clear hz hzk
      by_cases hvz : v = z
      · have hq := zeq_true hvz
        have HV : Hid (v = z) := hvz
        clear hvz
        go_wp2
        go_quiet (fail)
        go_wp2
        go_ret
        exact ⟨⟨_, rfl, .inl ⟨k, rfl, by rw [HV.out]; exact HK.out⟩⟩, below_drewN (below_drewN hb0 _) _⟩
      · have hq := zeq_false hvz
        have HV : Hid (¬ v = z) := hvz
        clear hvz
        go_wp2
        go_quiet (fail)
        go_wp2
        go_roundw
        case rel => exact ⟨k + 1, q + nq, by omega, by go_num, rfl, next_miss HM.out HK.out HV.out⟩
        case measure => simp [intOf]; omega
    · have HN : Hid (v ∉ zs) := not_mem_of HL.out (fun j z hj => HM.out j z (by omega))
      clear HM
      go_wp2
      go_ret
      exact ⟨⟨_, rfl, .inr ⟨rfl, HN.out⟩⟩, below_drewN hb0 _⟩

end Go.Proofs.Qxb6618312a
