import Derived.Test.Qxb6618312aLcs
import Derived.Test.Qxb6618312aBytes
namespace Go.Proofs.Qxb6618312a
open Go.RowKit Go.Maps

set_option maxHeartbeats 1000000 in
theorem zzMatchKeys_any (lo : Option Addr) (ln lc : Nat) (m : Option Nat) (lk : Bool) (ro : Option Addr) (rn rc : Nat) (rm : Option Nat) (rk : Bool) (A B : List Zid) (w : World) (ha : ZRow w lo ln A) (hb : ZRow w ro rn B) (hm : AtMap w m A)
    (hd : A.Nodup) (hok : ∀ z ∈ B, OkZ z) (hn : ln ≤ 1048576) (hrn : rn ≤ 1048576) :
    Calls Try.prog 6 #[.agg #[.slice lo ln lc, .map m, .bool lk], .agg #[.slice ro rn rc, .map rm, .bool rk]] w fun e w' => RetMK A B w' e ∧ Below w.heap.size w w' := by
  have B0 : Below w.heap.size w ((w.alloc (.cells #[.slice lo ln lc, .map m, .bool lk] 38)).alloc (.cells #[.slice ro rn rc, .map rm, .bool rk] 38)) := ((Below.refl _ _).alloc (Nat.le_refl _) _).alloc (by simp) _
  go_enter Try.func6, Try.ntmps6
  go_wp2_with fail
  refine (matchKeys_any lo ln lc m lk ro rn rc rm rk A B _ (ha.below B0) (hb.below B0) (hm.below B0) hd hok hn hrn).mono ?_
  rintro e w2 ⟨hr, hb2⟩
  obtain ⟨ms, hC, ro2, rc2, t, f, rs, rfl, hrest⟩ := hr
  have B2 := B0.trans (hb2.mono (by simp; omega))
  have HR : Hid (RetMK A B w2 (.returned (.slice ro2 t rc2))) := ⟨ms, hC, ro2, rc2, t, f, rs, rfl, hrest⟩
  clear hrest hb2 B0 hC
  go_wp2_with fail
  go_ret
  exact ⟨HR.out, B2⟩

end Go.Proofs.Qxb6618312a
