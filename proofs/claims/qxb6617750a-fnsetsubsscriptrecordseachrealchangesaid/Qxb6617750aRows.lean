/-
  No cell of these rows narrows 'for every input' (looked for: loops, veiled, ifaces, maps, wideKeys, modest, calm, conditions, laid).
  DERIVED. THE GIVEN ROWS OF THIS SEAT. 1 by the template 'for every input the law returns true; each argument reads behind the call as it read before'; 0 by the template 'total and deterministic' (their statements: Qxb6617750aTotals.lean).
  GIVEN WITH THE SEED: the statements are not yours to turn. If you find one false, say at which input.
  Laid BY PROGRAM, IN A SANDBOX (cutbox-rows.mjs): the forced cells as the released guide's own fill.sh prints them over the translation 41fd1c724561d453… (all of the seat's roots in one cut). By AI agents, Wed Nov 11 2026. No macro, syntax, notation, axiom, sorry.
-/
import Derived.Test.Qxb6617750aChecked
import GoSem.Claim
import GoSem.ClaimJoined
import GoSem.ClaimMapViews
import Derived.JoinedTies
import Derived.KernelRfl
namespace Go.Proofs.Qxb6617750a
/- THE CELL 'sum', in the pinned program and in every row, IS THE sha256 OF THE DUMP (.gsa) THAT Qxb6617750aProg.lean LOADS. Nothing in Lean hashes anything: it is a label: what it is worth is what the hold of that sum in a sandbox is worth. -/
noncomputable def Try.pinned : Pinned := { name := "qxb6617750a", sum := "41fd1c724561d4537bf56246555f4e7a6e2f2e34fbfba913adfa7a5d1cea670a", checked := Try.checked }
namespace Rows
def none {H : Type} : Left H := { results := [], args := [] }

/-- 'zzlaws_pkg_verifier_b1.FnSetSubsScriptRecordsEachRealChange': WHATEVER THE INPUT: true; the input reads as it did. -/
def fnSetSubsScriptRecordsEachRealChangeSpec : ChangeSpec := { name := "fnSetSubsScriptRecordsEachRealChange", fn := fun _ => fun
  | [d1, d2, d3] => { results := [.lit (.bool true)], args := [d1, d2, d3] }
  | _ => none }
def fnSetSubsScriptRecordsEachRealChangeRow : OpenClaim := { program := "qxb6617750a", sum := "41fd1c724561d4537bf56246555f4e7a6e2f2e34fbfba913adfa7a5d1cea670a", func := "example.com/bytecairn/bytecairn/zzlaws_pkg_verifier_b1.FnSetSubsScriptRecordsEachRealChange", spec := "fnSetSubsScriptRecordsEachRealChange", plainKeys := false, apart := false }
def FnSetSubsScriptRecordsEachRealChangeSaid : Prop := fnSetSubsScriptRecordsEachRealChangeRow.holds Try.pinned (OpenSpec.ofChange fnSetSubsScriptRecordsEachRealChangeSpec)

/-- ITS FALSE NEIGHBOUR: 'it returns false'. Refute it at one input. -/
def fnSetSubsScriptRecordsEachRealChangeWrong : ChangeSpec := { name := "fnSetSubsScriptRecordsEachRealChange", fn := fun _ => fun
  | [d1, d2, d3] => { results := [.lit (.bool false)], args := [d1, d2, d3] }
  | _ => none }
def FnSetSubsScriptRecordsEachRealChangeWrongFalsely : Prop := fnSetSubsScriptRecordsEachRealChangeRow.holds Try.pinned (OpenSpec.ofChange fnSetSubsScriptRecordsEachRealChangeWrong)

end Rows
end Go.Proofs.Qxb6617750a
