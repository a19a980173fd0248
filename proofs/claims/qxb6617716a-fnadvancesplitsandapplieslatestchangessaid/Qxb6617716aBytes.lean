import Derived.Test.Qxb6617716aParts
namespace Go.Proofs.Qxb6617716a
open Go.RowKit

def RetBool (e : Ending) : Prop := ∃ b, e = .returned (.bool b)

set_option maxRecDepth 100000 in
set_option maxHeartbeats 2000000 in
theorem bytes_any (o0 o1 o2 o3 o4 o5 o6 o7 o8 : Option Addr) (n0 n1 n2 n3 n4 n5 n6 n7 n8 c0 c1 c2 c3 c4 c5 c6 c7 c8 : Nat) (x y z : Int) (w : World)
    (h0 : n0 ≤ maxLen) (h1 : n1 ≤ maxLen) (h2 : n2 ≤ maxLen) (h3 : n3 ≤ maxLen) (h4 : n4 ≤ maxLen) (h5 : n5 ≤ maxLen) (h6 : n6 ≤ maxLen) (h7 : n7 ≤ maxLen) (h8 : n8 ≤ maxLen) :
    Calls Try.prog 4 #[.slice o0 n0 c0, .slice o1 n1 c1, .slice o2 n2 c2, .slice o3 n3 c3, .slice o4 n4 c4, .slice o5 n5 c5, .slice o6 n6 c6, .slice o7 n7 c7, .slice o8 n8 c8, .int .i64 x, .int .i64 y, .int .i64 z] w fun e w' => RetBool e ∧ w' = w := by
  unfold maxLen at h0 h1 h2 h3 h4 h5 h6 h7 h8
  go_enter Try.func4, Try.ntmps4
  go_wp2
  all_goals (go_ret; exact ⟨⟨_, rfl⟩, rfl⟩)

end Go.Proofs.Qxb6617716a
