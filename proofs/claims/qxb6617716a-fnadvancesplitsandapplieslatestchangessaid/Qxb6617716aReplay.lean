import Derived.Test.Qxb6617716aSmall
import Derived.BigRegion
namespace Go.Proofs.Qxb6617716a
open Go.RowKit

/-- The changes, column by column. -/
structure Chs where
  at' : Nat → Int
  us : Nat → Int
  lv : Nat → Bool
  la : Nat → Nat
  lo : Nat → Nat

def pcell (La Lo : Nat → Nat) (c : Nat) : Value := if c % 2 = 0 then .float .f64 (La (c / 2)) else .float .f64 (Lo (c / 2))
def ccell (C : Chs) (c : Nat) : Value :=
  if c % 5 = 0 then .int .i64 (C.at' (c / 5)) else if c % 5 = 1 then .int .i64 (C.us (c / 5)) else if c % 5 = 2 then .bool (C.lv (c / 5)) else if c % 5 = 3 then .float .f64 (C.la (c / 5)) else .float .f64 (C.lo (c / 5))
def czero (c : Nat) : Value :=
  if c % 5 = 0 then .int .i64 0 else if c % 5 = 1 then .int .i64 0 else if c % 5 = 2 then .bool false else if c % 5 = 3 then .float .f64 0 else .float .f64 0

theorem pcell0 (La Lo : Nat → Nat) (i : Nat) : pcell La Lo (i * 2) = .float .f64 (La i) := by
  have h1 : i * 2 % 2 = 0 := by omega
  have h2 : i * 2 / 2 = i := by omega
  simp [pcell, h1, h2]
theorem pcell1 (La Lo : Nat → Nat) (i : Nat) : pcell La Lo (i * 2 + 1) = .float .f64 (Lo i) := by
  have h1 : (i * 2 + 1) % 2 = 1 := by omega
  have h2 : (i * 2 + 1) / 2 = i := by omega
  simp [pcell, h1, h2]
theorem ccell0 (C : Chs) (i : Nat) : ccell C (i * 5) = .int .i64 (C.at' i) := by
  have h1 : i * 5 % 5 = 0 := by omega
  have h2 : i * 5 / 5 = i := by omega
  simp [ccell, h1, h2]
theorem ccell1 (C : Chs) (i : Nat) : ccell C (i * 5 + 1) = .int .i64 (C.us i) := by
  have h1 : (i * 5 + 1) % 5 = 1 := by omega
  have h2 : (i * 5 + 1) / 5 = i := by omega
  simp [ccell, h1, h2]
theorem ccell2 (C : Chs) (i : Nat) : ccell C (i * 5 + 2) = .bool (C.lv i) := by
  have h1 : (i * 5 + 2) % 5 = 2 := by omega
  have h2 : (i * 5 + 2) / 5 = i := by omega
  simp [ccell, h1, h2]
theorem ccell3 (C : Chs) (i : Nat) : ccell C (i * 5 + 3) = .float .f64 (C.la i) := by
  have h1 : (i * 5 + 3) % 5 = 3 := by omega
  have h2 : (i * 5 + 3) / 5 = i := by omega
  simp [ccell, h1, h2]
theorem ccell4 (C : Chs) (i : Nat) : ccell C (i * 5 + 4) = .float .f64 (C.lo i) := by
  have h1 : (i * 5 + 4) % 5 = 4 := by omega
  have h2 : (i * 5 + 4) / 5 = i := by omega
  simp [ccell, h1, h2]

theorem Try.info42 : (Try.prog.info? 42).map (fun i => (i.zero, i.size, i.bytes)) = some (some (.agg #[.float .f64 0, .float .f64 0]), 2, 16) := by kernel_rfl
theorem Try.info45 : (Try.prog.info? 45).map (fun i => (i.zero, i.size, i.bytes)) = some (some (.agg #[.int .i64 0, .int .i64 0, .bool false, .float .f64 0, .float .f64 0]), 5, 40) := by kernel_rfl

theorem make42 (n : Nat) (hn : n ≤ 1099511627776) (w : World) :
    (Instr.makeSlice 40 (.int .i64 (n : Int)) (.int .i64 (n : Int))).run Try.prog w = .ok (.slice (some ⟨w.heap.size, 0, none⟩) n n) (w.alloc (.cells (madeCells #[.float .f64 0, .float .f64 0] (n * 2)) 42)) := by
  obtain ⟨i, hi, hz, hs, hb⟩ := info_parts Try.info42
  have hr := run_make (P := Try.prog) w 40 42 i _ Try.underlying40 hi hz .i64 .i64 n n (by omega) (Int.le_refl _) (by rw [hb]; omega) (by omega)
  simp only [Int.toNat_natCast, hs] at hr
  exact hr

theorem make45 (n : Nat) (hn : n ≤ 1099511627776) (w : World) :
    (Instr.makeSlice 43 (.int .i64 (n : Int)) (.int .i64 (n : Int))).run Try.prog w = .ok (.slice (some ⟨w.heap.size, 0, none⟩) n n) (w.alloc (.cells (madeCells #[.int .i64 0, .int .i64 0, .bool false, .float .f64 0, .float .f64 0] (n * 5)) 45)) := by
  obtain ⟨i, hi, hz, hs, hb⟩ := info_parts Try.info45
  have hr := run_make (P := Try.prog) w 43 45 i _ Try.underlying43 hi hz .i64 .i64 n n (by omega) (Int.le_refl _) (by rw [hb]; omega) (by omega)
  simp only [Int.toNat_natCast, hs] at hr
  exact hr

def pcopy (La Lo : Nat → Nat) (k c : Nat) : Value := if c / 2 < k then pcell La Lo c else .float .f64 0
def ccopy (C : Chs) (k c : Nat) : Value := if c / 5 < k then ccell C c else czero c

theorem pcopy_made (w : World) (La Lo : Nat → Nat) (n : Nat) : (w.alloc (.cells (madeCells #[.float .f64 0, .float .f64 0] (n * 2)) 42)).rowIs w.heap.size 42 (n * 2) (pcopy La Lo 0) := by
  refine ⟨_, Go.heap_alloc_new w _, size_madeCells _ _, fun i hi => ?_⟩
  rcases Nat.mod_two_eq_zero_or_one i with e | e <;> simp [madeCells, hi, pcopy, e]

theorem ccopy_made (w : World) (C : Chs) (n : Nat) : (w.alloc (.cells (madeCells #[.int .i64 0, .int .i64 0, .bool false, .float .f64 0, .float .f64 0] (n * 5)) 45)).rowIs w.heap.size 45 (n * 5) (ccopy C 0) := by
  refine ⟨_, Go.heap_alloc_new w _, size_madeCells _ _, fun i hi => ?_⟩
  have h5 : i % 5 = 0 ∨ i % 5 = 1 ∨ i % 5 = 2 ∨ i % 5 = 3 ∨ i % 5 = 4 := by omega
  rcases h5 with e | e | e | e | e <;> simp [madeCells, hi, ccopy, czero, e]

theorem pcopy_step {w : World} {L n k : Nat} {La Lo : Nat → Nat} (h : w.rowIs L 42 (n * 2) (pcopy La Lo k)) :
    ((w.setCell ⟨L, k * 2, none⟩ (.float .f64 (La k))).setCell ⟨L, k * 2 + 1, none⟩ (.float .f64 (Lo k))).rowIs L 42 (n * 2) (pcopy La Lo (k + 1)) := by
  refine ((h.set (k * 2) _).set (k * 2 + 1) _).congr fun c hc => ?_
  by_cases e1 : c = k * 2 + 1
  · subst e1; rw [if_pos rfl]; unfold pcopy; rw [if_pos (by omega), pcell1]
  · rw [if_neg e1]
    by_cases e2 : c = k * 2
    · subst e2; rw [if_pos rfl]; unfold pcopy; rw [if_pos (by omega), pcell0]
    · rw [if_neg e2]; unfold pcopy
      by_cases h1 : c / 2 < k
      · rw [if_pos h1, if_pos (by omega)]
      · rw [if_neg h1, if_neg (by omega)]

theorem ccopy_step {w : World} {L n k : Nat} {C : Chs} (h : w.rowIs L 45 (n * 5) (ccopy C k)) :
    (((((w.setCell ⟨L, k * 5, none⟩ (.int .i64 (C.at' k))).setCell ⟨L, k * 5 + 1, none⟩ (.int .i64 (C.us k))).setCell ⟨L, k * 5 + 2, none⟩ (.bool (C.lv k))).setCell ⟨L, k * 5 + 3, none⟩ (.float .f64 (C.la k))).setCell ⟨L, k * 5 + 4, none⟩ (.float .f64 (C.lo k))).rowIs L 45 (n * 5) (ccopy C (k + 1)) := by
  refine (((((h.set (k * 5) _).set (k * 5 + 1) _).set (k * 5 + 2) _).set (k * 5 + 3) _).set (k * 5 + 4) _).congr fun c hc => ?_
  by_cases e4 : c = k * 5 + 4
  · subst e4; rw [if_pos rfl]; unfold ccopy; rw [if_pos (by omega), ccell4]
  rw [if_neg e4]
  by_cases e3 : c = k * 5 + 3
  · subst e3; rw [if_pos rfl]; unfold ccopy; rw [if_pos (by omega), ccell3]
  rw [if_neg e3]
  by_cases e2 : c = k * 5 + 2
  · subst e2; rw [if_pos rfl]; unfold ccopy; rw [if_pos (by omega), ccell2]
  rw [if_neg e2]
  by_cases e1 : c = k * 5 + 1
  · subst e1; rw [if_pos rfl]; unfold ccopy; rw [if_pos (by omega), ccell1]
  rw [if_neg e1]
  by_cases e0 : c = k * 5
  · subst e0; rw [if_pos rfl]; unfold ccopy; rw [if_pos (by omega), ccell0]
  rw [if_neg e0]; unfold ccopy
  by_cases h1 : c / 5 < k
  · rw [if_pos h1, if_pos (by omega)]
  · rw [if_neg h1, if_neg (by omega)]

/-- The frame of a replay. -/
def fcell (su : Value) (ap : Option Addr) (q c n m k : Nat) : Array Value :=
  #[su, .slice ap n n, .slice (some ⟨q, 0, none⟩) n n, .slice (some ⟨c, 0, none⟩) m m, .int .i64 (k : Int)]

/-- A replay at block r: n users, m changes, k of them applied; all its blocks lie from lo on, up to r. -/
structure Rep (w : World) (lo r pb q c n m : Nat) (su : Value) (ap : Option Addr) (P : Nat → Bool) (La Lo : Nat → Nat) (C : Chs) (k : Nat) : Prop where
  frame : w.heap[r]? = some (.cells (fcell su ap q c n m k) 47 (0, 0))
  pres : n = 0 ∨ (ap = some ⟨pb, 0, none⟩ ∧ lo ≤ pb ∧ pb < q ∧ w.rowIs pb 4 n (fun i => .bool (P i)))
  pos : w.rowIs q 42 (n * 2) (pcell La Lo)
  chg : w.rowIs c 45 (m * 5) (ccell C)
  oq : lo ≤ q
  oc : q < c
  orr : c < r

/-- A replay handed back. -/
def RetRep (w' : World) (lo n m : Nat) (P : Nat → Bool) (La Lo : Nat → Nat) (C : Chs) (k : Nat) (e : Ending) : Prop :=
  ∃ r pb q c su ap, e = .returned (.pointer (some ⟨r, 0, none⟩)) ∧ Rep w' lo r pb q c n m su ap P La Lo C k

theorem Rep.carry {w w' : World} {lo r pb q c n m : Nat} {su : Value} {ap : Option Addr} {P : Nat → Bool} {La Lo : Nat → Nat} {C : Chs} {k : Nat} (h : Rep w lo r pb q c n m su ap P La Lo C k)
    (hb : ∀ b, lo ≤ b → b ≤ r → b < w.heap.size → w'.heap[b]? = w.heap[b]?) : Rep w' lo r pb q c n m su ap P La Lo C k := by
  have h1 := h.oq; have h2 := h.oc; have h3 := h.orr
  have hr : r < w.heap.size := by
    obtain ⟨hlt, _⟩ := Array.getElem?_eq_some_iff.1 h.frame
    exact hlt
  refine ⟨(hb r (by omega) (Nat.le_refl _) hr).trans h.frame, ?_, h.pos.of_block (hb q (by omega) (by omega) (by omega)), h.chg.of_block (hb c (by omega) (by omega) (by omega)), h1, h2, h3⟩
  rcases h.pres with h0 | ⟨e, h4, h5, h6⟩
  · exact .inl h0
  · exact .inr ⟨e, h4, h5, h6.of_block (hb pb h4 (by omega) (by omega))⟩

theorem Rep.lt {w : World} {lo r pb q c n m : Nat} {su : Value} {ap : Option Addr} {P : Nat → Bool} {La Lo : Nat → Nat} {C : Chs} {k : Nat} (h : Rep w lo r pb q c n m su ap P La Lo C k) : r < w.heap.size := by
  obtain ⟨hlt, _⟩ := Array.getElem?_eq_some_iff.1 h.frame
  exact hlt

theorem Rep.below {w w' : World} {lo r pb q c n m : Nat} {su : Value} {ap : Option Addr} {P : Nat → Bool} {La Lo : Nat → Nat} {C : Chs} {k : Nat} (h : Rep w lo r pb q c n m su ap P La Lo C k) (hb : Below w.heap.size w w') : Rep w' lo r pb q c n m su ap P La Lo C k :=
  h.carry fun b _ _ hb' => hb.block b hb'

section
variable {w : World} {lo r pb q c n m : Nat} {su : Value} {ap : Option Addr} {P : Nat → Bool} {La Lo : Nat → Nat} {C : Chs} {k : Nat}
theorem Rep.c1 (h : Rep w lo r pb q c n m su ap P La Lo C k) : w.cell? ⟨r, 1, none⟩ = some (.slice ap n n) := by simp [World.cell?, h.frame, fcell]
theorem Rep.c2 (h : Rep w lo r pb q c n m su ap P La Lo C k) : w.cell? ⟨r, 2, none⟩ = some (.slice (some ⟨q, 0, none⟩) n n) := by simp [World.cell?, h.frame, fcell]
theorem Rep.c3 (h : Rep w lo r pb q c n m su ap P La Lo C k) : w.cell? ⟨r, 3, none⟩ = some (.slice (some ⟨c, 0, none⟩) m m) := by simp [World.cell?, h.frame, fcell]
theorem Rep.c4 (h : Rep w lo r pb q c n m su ap P La Lo C k) : w.cell? ⟨r, 4, none⟩ = some (.int .i64 (k : Int)) := by simp [World.cell?, h.frame, fcell]
theorem Rep.z4 (h : Rep w lo r pb q c n m su ap P La Lo C k) : w.frozen? ⟨r, 4, none⟩ = false := by simp [World.frozen?, h.frame]
end

end Go.Proofs.Qxb6617716a
