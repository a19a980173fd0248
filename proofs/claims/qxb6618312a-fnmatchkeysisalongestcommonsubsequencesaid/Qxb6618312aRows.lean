/-
  No cell of these rows narrows 'for every input' (looked for: loops, veiled, ifaces, maps, wideKeys, modest, calm, conditions, laid).
  DERIVED. THE GIVEN ROWS OF THIS SEAT. 1 by the template 'for every input the law returns true; each argument reads behind the call as it read before'; 0 by the template 'total and deterministic' (their statements: Qxb6618312aTotals.lean).
  GIVEN WITH THE SEED: the statements are not yours to turn. If you find one false, say at which input.
  Laid BY PROGRAM, IN A SANDBOX (cutbox-rows.mjs): the forced cells as the released guide's own fill.sh prints them over the translation c90d071d793492b3… (all of the seat's roots in one cut). By AI agents, Wed Nov 11 2026. No macro, syntax, notation, axiom, sorry.
-/
import Derived.Test.Qxb6618312aChecked
import GoSem.Claim
import GoSem.ClaimJoined
import GoSem.ClaimMapViews
import Derived.JoinedTies
import Derived.KernelRfl
namespace Go.Proofs.Qxb6618312a
/- THE CELL 'sum', in the pinned program and in every row, IS THE sha256 OF THE DUMP (.gsa) THAT Qxb6618312aProg.lean LOADS. Nothing in Lean hashes anything: it is a label: what it is worth is what the hold of that sum in a sandbox is worth. -/
noncomputable def Try.pinned : Pinned := { name := "qxb6618312a", sum := "c90d071d793492b3b491eefdc2bf26d18abb462d4e2774ef8051cd69d0bf65b2", checked := Try.checked }
namespace Rows
def none {H : Type} : Left H := { results := [], args := [] }

/-- 'zzlaws_root_b1.FnMatchKeysIsALongestCommonSubsequence': WHATEVER THE INPUT: true; the input reads as it did. -/
def fnMatchKeysIsALongestCommonSubsequenceSpec : ChangeSpec := { name := "fnMatchKeysIsALongestCommonSubsequence", fn := fun _ => fun
  | [d1, d2, d3, d4, d5, d6] => { results := [.lit (.bool true)], args := [d1, d2, d3, d4, d5, d6] }
  | _ => none }
def fnMatchKeysIsALongestCommonSubsequenceRow : OpenClaim := { program := "qxb6618312a", sum := "c90d071d793492b3b491eefdc2bf26d18abb462d4e2774ef8051cd69d0bf65b2", func := "example.com/fieldwright/fieldwright/zzlaws_root_b1.FnMatchKeysIsALongestCommonSubsequence", spec := "fnMatchKeysIsALongestCommonSubsequence", unfollowed := true, recurses := true, plainKeys := false, apart := false }
def FnMatchKeysIsALongestCommonSubsequenceSaid : Prop := fnMatchKeysIsALongestCommonSubsequenceRow.holds Try.pinned (OpenSpec.ofChange fnMatchKeysIsALongestCommonSubsequenceSpec)

/-- ITS FALSE NEIGHBOUR: 'it returns false'. Refute it at one input. -/
def fnMatchKeysIsALongestCommonSubsequenceWrong : ChangeSpec := { name := "fnMatchKeysIsALongestCommonSubsequence", fn := fun _ => fun
  | [d1, d2, d3, d4, d5, d6] => { results := [.lit (.bool false)], args := [d1, d2, d3, d4, d5, d6] }
  | _ => none }
def FnMatchKeysIsALongestCommonSubsequenceWrongFalsely : Prop := fnMatchKeysIsALongestCommonSubsequenceRow.holds Try.pinned (OpenSpec.ofChange fnMatchKeysIsALongestCommonSubsequenceWrong)

end Rows
end Go.Proofs.Qxb6618312a
