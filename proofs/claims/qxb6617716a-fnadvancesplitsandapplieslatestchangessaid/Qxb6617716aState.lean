import Derived.Test.Qxb6617716aReplay
import Derived.Test.Qxb6617716aOwn2
namespace Go.Proofs.Qxb6617716a
open Go.RowKit

/-- Of what was there, only blocks from lo to r may have turned. -/
structure Apart (lo r : Nat) (w w' : World) : Prop where
  os : w'.os = w.os
  tape : w'.tape = w.tape
  output : w'.output = w.output
  size : w.heap.size ≤ w'.heap.size
  block : ∀ b, b < w.heap.size → (b < lo ∨ r < b) → w'.heap[b]? = w.heap[b]?

theorem Apart.refl (lo r : Nat) (w : World) : Apart lo r w w := ⟨rfl, rfl, rfl, Nat.le_refl _, fun _ _ _ => rfl⟩

theorem Apart.below {lo r : Nat} {w w' : World} (h : Apart lo r w w') {B : Nat} (hB : B ≤ lo) (hl : lo ≤ w.heap.size) : Below B w w' :=
  ⟨h.os, h.tape, h.output, h.size, fun k hk => h.block k (by omega) (.inl (by omega))⟩

theorem Apart.drewN {lo r : Nat} {w w' : World} (h : Apart lo r w w') (q : Nat) : Apart lo r w (w'.drewN q) := ⟨h.os, h.tape, h.output, h.size, h.block⟩

theorem Apart.alloc {lo r : Nat} {w w' : World} (h : Apart lo r w w') (o : Obj) : Apart lo r w (w'.alloc o) :=
  ⟨h.os, h.tape, h.output, Nat.le_trans h.size (by simp), fun b hb hc => (Below.heap_alloc _ _ _ (Nat.lt_of_lt_of_le hb h.size)).trans (h.block b hb hc)⟩

theorem Apart.set {lo r : Nat} {w w' : World} (h : Apart lo r w w') {p : Addr} (hp : (lo ≤ p.block ∧ p.block ≤ r) ∨ w.heap.size ≤ p.block) (u : Value) : Apart lo r w (w'.setCell p u) :=
  ⟨h.os, h.tape, h.output, Nat.le_trans h.size (by simp [World.setCell]), fun b hb hc => (Below.heap_setCell _ _ _ _ (by omega)).trans (h.block b hb hc)⟩

theorem Apart.grown {lo r : Nat} {w w' w2 : World} {row : Option Nat} (h : Apart lo r w w') (hg : w'.grownBy w2 row) (hr : ∀ k, row = some k → w.heap.size ≤ k) : Apart lo r w w2 :=
  ⟨hg.os.trans h.os, hg.tape.trans h.tape, hg.output.trans h.output, Nat.le_trans h.size hg.size, fun b hb hc => (hg.block b (Nat.lt_of_lt_of_le hb h.size) (fun e => by have := hr b e.symm; omega)).trans (h.block b hb hc)⟩

theorem cell_of_one {w : World} {b : Nat} {x : Value} {t : TypeId} {f : Nat × Nat} (h : w.heap[b]? = some (.cells #[x] t f)) : w.cell? ⟨b, 0, none⟩ = some x := by
  simp [World.cell?, h]

theorem one_new (w : World) (x : Value) (t : TypeId) : ∀ (j : Nat) (u : Value), [x][j]? = some u → (w.alloc (.cells #[x] t)).cell? ((⟨w.heap.size, 0, none⟩ : Addr).add j) = some u := by
  intro j u hj
  match j, hj with
  | 0, hj =>
    simp only [List.getElem?_cons_zero, Option.some.injEq] at hj
    subst hj
    show (w.alloc (.cells #[x] t)).cell? ⟨w.heap.size, 0, none⟩ = _
    exact cell_of_one (Go.heap_alloc_new w _)

/-- A row of blocks from B on that reads f. -/
def Above (w : World) (B : Nat) (ao : Option Addr) (n : Nat) (f : Nat → Value) : Prop :=
  n = 0 ∨ ∃ b, ao = some ⟨b, 0, none⟩ ∧ B ≤ b ∧ ∀ i, i < n → w.cell? ⟨b, i, none⟩ = some (f i)

theorem Above.reads {w : World} {B : Nat} {ao : Option Addr} {n : Nat} {f : Nat → Value} (h : Above w B ao n f) : Reads w ao n f := by
  rcases h with h0 | ⟨b, e, _, hc⟩
  · exact .inl h0
  · exact .inr ⟨b, 0, e, fun i hi => by rw [Nat.zero_add]; exact hc i hi⟩

theorem Above.apart {w w' : World} {B lo r : Nat} {ao : Option Addr} {n : Nat} {f : Nat → Value} (h : Above w B ao n f) (ha : Apart lo r w w') (hr : r < B) : Above w' B ao n f := by
  rcases h with h0 | ⟨b, e, hB, hc⟩
  · exact .inl h0
  · refine .inr ⟨b, e, hB, fun i hi => ?_⟩
    have h1 := hc i hi
    rw [World.cell?_of_block (a := ⟨b, i, none⟩) (ha.block b (World.block_lt_of_cell? w _ h1) (.inr (by omega)))]
    exact h1

theorem Above.below {w w' : World} {B : Nat} {ao : Option Addr} {n : Nat} {f : Nat → Value} (h : Above w B ao n f) (hb : Below w.heap.size w w') : Above w' B ao n f := by
  rcases h with h0 | ⟨b, e, hB, hc⟩
  · exact .inl h0
  · refine .inr ⟨b, e, hB, fun i hi => ?_⟩
    have h1 := hc i hi
    rw [hb.cell (p := ⟨b, i, none⟩) (World.block_lt_of_cell? w _ h1)]
    exact h1

def ulist (C : Chs) (k d : Nat) : List Value := (List.range d).map fun i => .int .i64 (C.us (k + i))

theorem ulist_succ (C : Chs) (k d : Nat) : ulist C k d ++ [.int .i64 (C.us (k + d))] = ulist C k (d + 1) := by
  simp [ulist, List.range_succ]

/-- Where a walk of Advance stands. -/
structure ASt (w wr : World) (lo r pb q c n m : Nat) (su : Value) (ap : Option Addr) (P : Nat → Bool) (La Lo : Nat → Nat) (C : Chs) (kk : Nat) (k d : Nat) (v : Value) : Prop where
  own : wr.ownsRow w.heap.size 3 1 v d (ulist C k d)
  rep : Rep wr lo r pb q c n m su ap P La Lo C kk
  apart : Apart lo r w wr
  hr : r < w.heap.size

section
variable {w wr : World} {lo r pb q c n m : Nat} {su : Value} {ap : Option Addr} {P : Nat → Bool} {La Lo : Nat → Nat} {C : Chs} {kk k d : Nat} {v : Value}

theorem ASt.drewN (h : ASt w wr lo r pb q c n m su ap P La Lo C kk k d v) (nq : Nat) : ASt w (wr.drewN nq) lo r pb q c n m su ap P La Lo C kk k d v :=
  ⟨h.own, ⟨h.rep.frame, h.rep.pres, h.rep.pos, h.rep.chg, h.rep.oq, h.rep.oc, h.rep.orr⟩, h.apart.drewN _, h.hr⟩

theorem ASt.drew (h : ASt w wr lo r pb q c n m su ap P La Lo C kk k d v) : ASt w wr.drew lo r pb q c n m su ap P La Lo C kk k d v :=
  ⟨h.own, ⟨h.rep.frame, h.rep.pres, h.rep.pos, h.rep.chg, h.rep.oq, h.rep.oc, h.rep.orr⟩, ⟨h.apart.os, h.apart.tape, h.apart.output, h.apart.size, h.apart.block⟩, h.hr⟩

theorem ASt.alloc (h : ASt w wr lo r pb q c n m su ap P La Lo C kk k d v) (o : Obj) : ASt w (wr.alloc o) lo r pb q c n m su ap P La Lo C kk k d v :=
  ⟨h.own.alloc o, h.rep.carry fun _ _ _ hb => Below.heap_alloc _ _ _ hb, h.apart.alloc o, h.hr⟩

theorem ASt.setNew (h : ASt w wr lo r pb q c n m su ap P La Lo C kk k d v) {p : Addr} (hp : w.heap.size ≤ p.block) (hv : v.ownBlock ≠ some p.block) (u : Value) : ASt w (wr.setCell p u) lo r pb q c n m su ap P La Lo C kk k d v := by
  have := h.hr
  exact ⟨ownsRow_setCell_other h.own hv u, h.rep.carry fun b _ h2 _ => Below.heap_setCell _ _ _ _ (by omega), h.apart.set (.inr hp) u, h.hr⟩

theorem ASt.setP (h : ASt w wr lo r pb q c n m su ap P La Lo C kk k d v) {u : Nat} (hu : u < n) (x : Bool) : ASt w (wr.setCell ⟨pb, u, none⟩ (.bool x)) lo r pb q c n m su ap (fun i => if i = u then x else P i) La Lo C kk k d v := by
  have h1 := h.rep.oq; have h2 := h.rep.oc; have h3 := h.rep.orr; have h4 := h.hr
  rcases h.rep.pres with h0 | ⟨e, h5, h6, h7⟩
  · omega
  have hne : ∀ b, b ≠ pb → (wr.setCell ⟨pb, u, none⟩ (.bool x)).heap[b]? = wr.heap[b]? := fun b hb => Below.heap_setCell _ _ _ _ hb
  refine ⟨ownsRow_setCell_below h.own (show pb < w.heap.size by omega) _, ⟨(hne r (by omega)).trans h.rep.frame, .inr ⟨e, h5, h6, (h7.set u _).congr fun i hi => ?_⟩, h.rep.pos.of_block (hne q (by omega)), h.rep.chg.of_block (hne c (by omega)), h1, h2, h3⟩, h.apart.set (.inl ⟨h5, show pb ≤ r by omega⟩) _, h4⟩
  by_cases hi' : i = u
  · simp [hi']
  · simp [hi']

theorem ASt.setPos (h : ASt w wr lo r pb q c n m su ap P La Lo C kk k d v) (u : Nat) (x y : Nat) : ASt w ((wr.setCell ⟨q, u * 2, none⟩ (.float .f64 x)).setCell ⟨q, u * 2 + 1, none⟩ (.float .f64 y)) lo r pb q c n m su ap P (fun i => if i = u then x else La i) (fun i => if i = u then y else Lo i) C kk k d v := by
  have h1 := h.rep.oq; have h2 := h.rep.oc; have h3 := h.rep.orr; have h4 := h.hr
  have hne : ∀ b, b ≠ q → ((wr.setCell ⟨q, u * 2, none⟩ (.float .f64 x)).setCell ⟨q, u * 2 + 1, none⟩ (.float .f64 y)).heap[b]? = wr.heap[b]? := fun b hb => by
    rw [Below.heap_setCell _ _ _ _ hb, Below.heap_setCell _ _ _ _ hb]
  refine ⟨ownsRow_setCell_below (ownsRow_setCell_below h.own (show q < w.heap.size by omega) _) (show q < w.heap.size by omega) _, ⟨(hne r (by omega)).trans h.rep.frame, ?_, ((h.rep.pos.set (u * 2) _).set (u * 2 + 1) _).congr fun i hi => ?_, h.rep.chg.of_block (hne c (by omega)), h1, h2, h3⟩, (h.apart.set (.inl ⟨h1, show q ≤ r by omega⟩) _).set (.inl ⟨h1, show q ≤ r by omega⟩) _, h4⟩
  · rcases h.rep.pres with h0 | ⟨e, h5, h6, h7⟩
    · exact .inl h0
    · exact .inr ⟨e, h5, h6, h7.of_block (hne pb (by omega))⟩
  · by_cases e1 : i = u * 2 + 1
    · subst e1; rw [if_pos rfl, pcell1]; simp
    · rw [if_neg e1]
      by_cases e2 : i = u * 2
      · subst e2; rw [if_pos rfl, pcell0]; simp
      · rw [if_neg e2]
        have e3 : i / 2 ≠ u := by omega
        unfold pcell
        simp [e3]

theorem ASt.inc (h : ASt w wr lo r pb q c n m su ap P La Lo C kk k d v) (kk' : Nat) : ASt w (wr.setCell ⟨r, 4, none⟩ (.int .i64 (kk' : Int))) lo r pb q c n m su ap P La Lo C kk' k d v := by
  have h1 := h.rep.oq; have h2 := h.rep.oc; have h3 := h.rep.orr; have h4 := h.hr
  have hne : ∀ b, b ≠ r → (wr.setCell ⟨r, 4, none⟩ (.int .i64 (kk' : Int))).heap[b]? = wr.heap[b]? := fun b hb => Below.heap_setCell _ _ _ _ hb
  refine ⟨ownsRow_setCell_below h.own h4 _, ⟨?_, ?_, h.rep.pos.of_block (hne q (by omega)), h.rep.chg.of_block (hne c (by omega)), h1, h2, h3⟩, h.apart.set (.inl ⟨show lo ≤ r by omega, Nat.le_refl _⟩) _, h4⟩
  · simp [World.setCell, Array.getElem?_modify, h.rep.frame, fcell]
  · rcases h.rep.pres with h0 | ⟨e, h5, h6, h7⟩
    · exact .inl h0
    · exact .inr ⟨e, h5, h6, h7.of_block (hne pb (by omega))⟩

theorem ASt.push {w2 : World} {v' : Value} {us : Int} (h : ASt w wr lo r pb q c n m su ap P La Lo C kk k d v) (hu : C.us (k + d) = us) (ho : w2.ownsRow w.heap.size 3 1 v' (d + 1) (ulist C k d ++ [.int .i64 us])) (hg : wr.grownBy w2 v.ownBlock) :
    ASt w w2 lo r pb q c n m su ap P La Lo C kk k (d + 1) v' := by
  have h4 := h.hr
  subst hu
  rw [ulist_succ] at ho
  refine ⟨ho, h.rep.carry fun b _ h2 h3 => hg.block b h3 fun e => ?_, h.apart.grown hg fun k hk => (h.own.lt k hk).1, h4⟩
  have := (h.own.lt b e.symm).1
  omega

theorem ASt.shape (h : ASt w wr lo r pb q c n m su ap P La Lo C kk k d v) : ∃ ao cc, v = .slice ao d cc ∧ Above wr w.heap.size ao d (fun i => .int .i64 (C.us (k + i))) := by
  rcases h.own.2 with ⟨rfl, rfl⟩ | ⟨g, cap, cur, rfl, hg, _⟩
  · exact ⟨none, 0, rfl, .inl rfl⟩
  · refine ⟨_, _, rfl, .inr ⟨g, rfl, hg, fun i hi => ?_⟩⟩
    rw [h.own.cellAt i (by omega)]
    simp [ulist, hi]
end

def lenOf : Value → Nat | .slice _ n _ => n | _ => 0

/-- Presence and position behind d changes from number k on. -/
def stP (C : Chs) (P : Nat → Bool) (k d : Nat) : Nat → Bool := Plain.app C.us (fun _ => true) (fun j => !C.lv j) P k d
def stV (C : Chs) (v V : Nat → Nat) (k d : Nat) : Nat → Nat := Plain.app C.us (fun j => !C.lv j) v V k d

/-- What Advance hands back, and how the replay stands behind it. -/
def RetAdv (w w' : World) (lo r pb q c n m : Nat) (su : Value) (ap : Option Addr) (P : Nat → Bool) (La Lo : Nat → Nat) (C : Chs) (k : Nat) (t : Int) (e : Ending) : Prop :=
  ∃ d ao cc, e = .returned (.slice ao d cc) ∧ Above w' w.heap.size ao d (fun i => .int .i64 (C.us (k + i))) ∧ Plain.Stops C.at' m k t (k + d) ∧
    Rep w' lo r pb q c n m su ap (stP C P k d) (stV C C.la La k d) (stV C C.lo Lo k d) C (k + d) ∧ Apart lo r w w'

end Go.Proofs.Qxb6617716a
