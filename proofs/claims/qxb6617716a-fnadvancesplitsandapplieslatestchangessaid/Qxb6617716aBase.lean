import Derived.Test.Qxb6617716aViews

import Derived.Test.Qxb6617716aState
namespace Go.Proofs.Qxb6617716a
open Go.RowKit

/-- The number of a code's first region. -/
def firstRegion : Code → Option Nat
  | .region id _ _ => some id
  | .seq a _ => firstRegion a
  | .block _ c => firstRegion c
  | _ => none

/-- What stands from the statement on that opens with region r. -/
def suffix (r : Nat) : Code → Code
  | .seq a b => if firstRegion a = some r then .seq a b else suffix r b
  | c => c

/-- The post of the law. -/
abbrev LawPost (w : World) : Exit → Act → World → Prop := bodyPost Try.prog Try.f3 fun e w' => e = Ending.returned (Value.bool true) ∧ Below w.heap.size w w'

theorem Reads.nil {w : World} {ao : Option Addr} {n : Nat} {f : Nat → Value} (h : Reads w ao n f) (e : ao = none) : n = 0 := by
  rcases h with h0 | ⟨b, off, e', _⟩
  · exact h0
  · rw [e] at e'; cases e'

theorem Rep.reads {w : World} {lo r pb q c n m : Nat} {su : Value} {ap : Option Addr} {P : Nat → Bool} {La Lo : Nat → Nat} {C : Chs} {k : Nat} (h : Rep w lo r pb q c n m su ap P La Lo C k) : Reads w ap n (fun i => .bool (P i)) := by
  rcases h.pres with h0 | ⟨e, _, _, hr⟩
  · exact .inl h0
  · exact .inr ⟨pb, 0, e, fun i hi => by rw [Nat.zero_add]; exact hr.cell hi⟩

/-- What stands while the law compares. -/
structure Lst (W w : World) (n m a km : Nat) (P : Nat → Bool) (La Lo : Nat → Nat) (C : Chs) (o1 o2 o3 o5 o6 o7 o8 : Option Addr) (rA rB : Nat) (P' : Nat → Bool) (La' Lo' : Nat → Nat) : Prop where
  bel : Below W.heap.size W w
  pr : Reads w o1 n (fun i => .bool (P i))
  lat : Reads w o2 n (fun i => .float .f64 (La i))
  lon : Reads w o3 n (fun i => .float .f64 (Lo i))
  us : Reads w o5 m (fun i => .int .i64 (C.us i))
  lv : Reads w o6 m (fun i => .bool (C.lv i))
  la : Reads w o7 m (fun i => .float .f64 (C.la i))
  lo : Reads w o8 m (fun i => .float .f64 (C.lo i))
  A : ∃ lo pb q c su ap, Rep w lo rA pb q c n m su ap P' La' Lo' C km
  B : ∃ lo pb q c su ap, Rep w lo rB pb q c n m su ap P' La' Lo' C km
  ak : a ≤ km
  km : km ≤ m
  hn : n ≤ 8192
  hm : m ≤ 8192
  ub : ∀ i, i < m → 0 ≤ C.us i ∧ C.us i < n

theorem Lst.below {W w w' : World} {n m a km : Nat} {P : Nat → Bool} {La Lo : Nat → Nat} {C : Chs} {o1 o2 o3 o5 o6 o7 o8 : Option Addr} {rA rB : Nat} {P' : Nat → Bool} {La' Lo' : Nat → Nat}
    (h : Lst W w n m a km P La Lo C o1 o2 o3 o5 o6 o7 o8 rA rB P' La' Lo') (hb : Below w.heap.size w w') : Lst W w' n m a km P La Lo C o1 o2 o3 o5 o6 o7 o8 rA rB P' La' Lo' := by
  obtain ⟨l1, p1, q1, c1, s1, a1, h1⟩ := h.A
  obtain ⟨l2, p2, q2, c2, s2, a2, h2⟩ := h.B
  exact ⟨h.bel.trans (hb.mono h.bel.size), h.pr.below (Nat.le_refl _) hb, h.lat.below (Nat.le_refl _) hb, h.lon.below (Nat.le_refl _) hb, h.us.below (Nat.le_refl _) hb, h.lv.below (Nat.le_refl _) hb, h.la.below (Nat.le_refl _) hb, h.lo.below (Nat.le_refl _) hb,
    ⟨l1, p1, q1, c1, s1, a1, h1.below hb⟩, ⟨l2, p2, q2, c2, s2, a2, h2.below hb⟩, h.ak, h.km, h.hn, h.hm, h.ub⟩

theorem below_drew0 (w : World) (q : Nat) : Below w.heap.size w (w.drewN q) := below_drewN (Below.refl _ _) q

end Go.Proofs.Qxb6617716a
