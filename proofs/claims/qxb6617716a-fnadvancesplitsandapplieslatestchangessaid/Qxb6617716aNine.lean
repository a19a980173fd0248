import Derived.Test.Qxb6617716aT55
import Derived.Test.Qxb6617716aNew
import Derived.Test.Qxb6617716aAdvance
namespace Go.Proofs.Qxb6617716a
open Go.RowKit

/-- The nine slices, read. -/
structure Nine (w : World) (n0 n m : Nat) (X : Nat → Int) (P : Nat → Bool) (La Lo : Nat → Nat) (C : Chs) (x0 x1 x2 x3 x4 x5 x6 x7 x8 : Option Addr) : Prop where
  r0 : Reads w x0 n0 (fun i => .int .i64 (X i))
  r1 : Reads w x1 n (fun i => .bool (P i))
  r2 : Reads w x2 n (fun i => .float .f64 (La i))
  r3 : Reads w x3 n (fun i => .float .f64 (Lo i))
  r4 : Reads w x4 m (fun i => .int .i64 (C.at' i))
  r5 : Reads w x5 m (fun i => .int .i64 (C.us i))
  r6 : Reads w x6 m (fun i => .bool (C.lv i))
  r7 : Reads w x7 m (fun i => .float .f64 (C.la i))
  r8 : Reads w x8 m (fun i => .float .f64 (C.lo i))

theorem Nine.below {w w' : World} {n0 n m : Nat} {X : Nat → Int} {P : Nat → Bool} {La Lo : Nat → Nat} {C : Chs} {x0 x1 x2 x3 x4 x5 x6 x7 x8 : Option Addr} (h : Nine w n0 n m X P La Lo C x0 x1 x2 x3 x4 x5 x6 x7 x8) (hb : Below w.heap.size w w') : Nine w' n0 n m X P La Lo C x0 x1 x2 x3 x4 x5 x6 x7 x8 :=
  ⟨h.r0.below (Nat.le_refl _) hb, h.r1.below (Nat.le_refl _) hb, h.r2.below (Nat.le_refl _) hb, h.r3.below (Nat.le_refl _) hb, h.r4.below (Nat.le_refl _) hb, h.r5.below (Nat.le_refl _) hb, h.r6.below (Nat.le_refl _) hb, h.r7.below (Nat.le_refl _) hb, h.r8.below (Nat.le_refl _) hb⟩

end Go.Proofs.Qxb6617716a
