import Derived.Test.Qxb6617716aT29
import Derived.Test.Qxb6617716aBytes
namespace Go.Proofs.Qxb6617716a
open Go.RowKit

set_option maxRecDepth 1000000 in
set_option maxHeartbeats 4000000 in
theorem law_any (w : World) (n0 n n2 n3 m n5 n6 n7 n8 : Nat) (ai t1 t2 : Int) (X : Nat → Int) (P : Nat → Bool) (La Lo : Nat → Nat) (C : Chs) (o0 o1 o2 o3 o4 o5 o6 o7 o8 : Option Addr) (c0 c1 c2 c3 c4 c5 c6 c7 c8 : Nat)
    (r0 : Reads w o0 n0 (fun i => .int .i64 (X i))) (r1 : Reads w o1 n (fun i => .bool (P i))) (r2 : Reads w o2 n2 (fun i => .float .f64 (La i))) (r3 : Reads w o3 n3 (fun i => .float .f64 (Lo i)))
    (r4 : Reads w o4 m (fun i => .int .i64 (C.at' i))) (r5 : Reads w o5 n5 (fun i => .int .i64 (C.us i))) (r6 : Reads w o6 n6 (fun i => .bool (C.lv i))) (r7 : Reads w o7 n7 (fun i => .float .f64 (C.la i))) (r8 : Reads w o8 n8 (fun i => .float .f64 (C.lo i)))
    (h0 : n0 ≤ c0) (h1 : n ≤ c1) (h2 : n2 ≤ c2) (h3 : n3 ≤ c3) (h4 : m ≤ c4) (h5 : n5 ≤ c5) (h6 : n6 ≤ c6) (h7 : n7 ≤ c7) (h8 : n8 ≤ c8) (z0 : o0 = none → c0 = 0) (z1 : o1 = none → c1 = 0) (z2 : o2 = none → c2 = 0) (z3 : o3 = none → c3 = 0) (z4 : o4 = none → c4 = 0) (z5 : o5 = none → c5 = 0) (z6 : o6 = none → c6 = 0) (z7 : o7 = none → c7 = 0) (z8 : o8 = none → c8 = 0) (y0 : n0 ≤ maxLen) (y1 : n ≤ maxLen) (y2 : n2 ≤ maxLen) (y3 : n3 ≤ maxLen) (y4 : m ≤ maxLen) (y5 : n5 ≤ maxLen) (y6 : n6 ≤ maxLen) (y7 : n7 ≤ maxLen) (y8 : n8 ≤ maxLen) :
    Calls Try.prog 3 #[.slice o0 n0 c0, .slice o1 n c1, .slice o2 n2 c2, .slice o3 n3 c3, .slice o4 m c4, .slice o5 n5 c5, .slice o6 n6 c6, .slice o7 n7 c7, .slice o8 n8 c8, .int .i64 ai, .int .i64 t1, .int .i64 t2] w fun e w' => e = .returned (.bool true) ∧ Below w.heap.size w w' := by
  have HH : Hid (n0 ≤ c0 ∧ n ≤ c1 ∧ n2 ≤ c2 ∧ n3 ≤ c3 ∧ m ≤ c4 ∧ n5 ≤ c5 ∧ n6 ≤ c6 ∧ n7 ≤ c7 ∧ n8 ≤ c8) := ⟨h0, h1, h2, h3, h4, h5, h6, h7, h8⟩
  have HZ : Hid ((o0 = none → c0 = 0) ∧ (o1 = none → c1 = 0) ∧ (o2 = none → c2 = 0) ∧ (o3 = none → c3 = 0) ∧ (o4 = none → c4 = 0) ∧ (o5 = none → c5 = 0) ∧ (o6 = none → c6 = 0) ∧ (o7 = none → c7 = 0) ∧ (o8 = none → c8 = 0)) := ⟨z0, z1, z2, z3, z4, z5, z6, z7, z8⟩
  clear h0 z0 h1 z1 h2 z2 h3 z3 h4 z4 h5 z5 h6 z6 h7 z7 h8 z8
  go_enter Try.func3, Try.ntmps3
  go_wp2_with fail
  refine (bytes_any o0 o1 o2 o3 o4 o5 o6 o7 o8 n0 n n2 n3 m n5 n6 n7 n8 c0 c1 c2 c3 c4 c5 c6 c7 c8 ai t1 t2 w y0 y1 y2 y3 y4 y5 y6 y7 y8).mono ?_
  rintro e wq ⟨⟨bb, rfl⟩, hw⟩
  obtain rfl := hw.symm
  clear hw y0 y1 y2 y3 y4 y5 y6 y7 y8
  cases bb with
  | false =>
    go_wp2_with fail
    go_ret
    exact ⟨rfl, Below.refl _ _⟩
  | true =>
    by_cases l0 : n0 ≤ 8192
    case neg =>
      go_wp2_with fail
      go_ret
      exact ⟨rfl, Below.refl _ _⟩
    by_cases l1 : n ≤ 8192
    case neg =>
      go_wp2_with fail
      go_ret
      exact ⟨rfl, Below.refl _ _⟩
    by_cases l2 : n2 ≤ 8192
    case neg =>
      go_wp2_with fail
      go_ret
      exact ⟨rfl, Below.refl _ _⟩
    by_cases l3 : n3 ≤ 8192
    case neg =>
      go_wp2_with fail
      go_ret
      exact ⟨rfl, Below.refl _ _⟩
    by_cases l4 : m ≤ 8192
    case neg =>
      go_wp2_with fail
      go_ret
      exact ⟨rfl, Below.refl _ _⟩
    by_cases l5 : n5 ≤ 8192
    case neg =>
      go_wp2_with fail
      go_ret
      exact ⟨rfl, Below.refl _ _⟩
    by_cases l6 : n6 ≤ 8192
    case neg =>
      go_wp2_with fail
      go_ret
      exact ⟨rfl, Below.refl _ _⟩
    by_cases l7 : n7 ≤ 8192
    case neg =>
      go_wp2_with fail
      go_ret
      exact ⟨rfl, Below.refl _ _⟩
    by_cases l8 : n8 ≤ 8192
    case neg =>
      go_wp2_with fail
      go_ret
      exact ⟨rfl, Below.refl _ _⟩
    by_cases q2 : n2 = n
    case neg =>
      go_wp2_with fail
      go_ret
      exact ⟨rfl, Below.refl _ _⟩
    replace q2 := q2.symm; subst q2
    by_cases q3 : n3 = n
    case neg =>
      go_wp2_with fail
      go_ret
      exact ⟨rfl, Below.refl _ _⟩
    replace q3 := q3.symm; subst q3
    by_cases q5 : n5 = m
    case neg =>
      go_wp2_with fail
      go_ret
      exact ⟨rfl, Below.refl _ _⟩
    replace q5 := q5.symm; subst q5
    by_cases q6 : n6 = m
    case neg =>
      go_wp2_with fail
      go_ret
      exact ⟨rfl, Below.refl _ _⟩
    replace q6 := q6.symm; subst q6
    by_cases q7 : n7 = m
    case neg =>
      go_wp2_with fail
      go_ret
      exact ⟨rfl, Below.refl _ _⟩
    replace q7 := q7.symm; subst q7
    by_cases q8 : n8 = m
    case neg =>
      go_wp2_with fail
      go_ret
      exact ⟨rfl, Below.refl _ _⟩
    replace q8 := q8.symm; subst q8
    by_cases ha0 : 0 ≤ ai
    case neg =>
      go_wp2_with fail
      go_ret
      exact ⟨rfl, Below.refl _ _⟩
    obtain ⟨a, rfl⟩ : ∃ a : Nat, ai = (a : Int) := ⟨ai.toNat, by omega⟩
    have NN : Nine w n0 n m X P La Lo C o0 o1 o2 o3 o4 o5 o6 o7 o8 := ⟨r0, r1, r2, r3, r4, r5, r6, r7, r8⟩
    clear r0 r1 r2 r3 r4 r5 r6 r7 r8 ha0
    by_cases ham : a ≤ m
    case neg =>
      go_wp2_with fail
      go_ret
      exact ⟨rfl, Below.refl _ _⟩
    go_upto_if 129 with (fail)
    rename_i K hK
    have HK : Hid _ := hK
    clear hK
    go_wp2_with fail
    exact HK.out _ _ (tail29 w n0 n m a t1 t2 X P La Lo C o0 o1 o2 o3 o4 o5 o6 o7 o8 c0 c1 c2 c3 c4 c5 c6 c7 c8 NN l0 l1 l4 ham HH HZ _ _ _ _ _ _ _ _ _ _ _ _ _ _ _ _ _ _ _ _ _ _ _ _ _ _ _ _ _ _ _ _ _ _ _ _ _ _ _ _ _ _ _ _ _ _ _ _ _ _ _ _ _ _ _ _ _ _ _ _ _ _ _ _ _ _ _ _ _ _ _ _ _ _ _ _ _ _ _ _ _ _ _ _ _ _ _ _ _ _ _ _ _ _ _ _ _ _ _ _ _ _ _ _ _ _ _ _ _ _ _ _ _ _ _ _ _ _ _ _ _ _ _ _ _ _ _ _ _ _ _ _ _ _ _ _ _ _ _ _ _ _ _ _ _ _ _ _ _ _ _ _ _ _ _ _ _ _ _ _ _ _ _ _ _ _ _ _ _ _ _ _ _ _ _ _ _ _ _ _ _ _ _ _ _ _ _ _ _ _ _ _ _ _ _ _ _ _ _ _ _ _ _ _ _ _ _ _ _ _ _ _ _ _ _ _ _ _ _ _ _ _ _ _ _ _ _ _ _ _ _ _ _ _ _ _ _ _ _ _ _ _ _ _ _ _ _ _ _ _ _ _ _ _ _ _ _ _ _ _ _ _ _ _ _ _ _ _ _ _ _ _ _ _ _ _ _ _ _ _ _ _ _ _ _ _ _ _ _ _ _ _ _ _ _ _ _ _ _ _ _ _ _ _ _ _ _ _ _ _ _ _ _ _ _ _ _ _ _ _ _ _ _ _ _ _ _ _ _ _ _ _ _ _ _ _ _ _ _ _ _ _ _ _ _ _ _ _ _ _ _ _ _ _ _ _ _ _ _ _ _ _ _ _ _ _ _ _ _ _ _ _ _ _ _ _ _ _ _ _ _ _ _ _)

end Go.Proofs.Qxb6617716a
