/-
  No cell of these rows narrows 'for every input' (looked for: loops, veiled, ifaces, maps, wideKeys, modest, calm, conditions, laid).
  DERIVED. THE GIVEN ROWS OF THIS SEAT. 1 by the template 'for every input the law returns true; each argument reads behind the call as it read before'; 0 by the template 'total and deterministic' (their statements: Qxb6617716aTotals.lean).
  GIVEN WITH THE SEED: the statements are not yours to turn. If you find one false, say at which input.
  Laid BY PROGRAM, IN A SANDBOX (cutbox-rows.mjs): the forced cells as the released guide's own fill.sh prints them over the translation 6210594251f4211b… (all of the seat's roots in one cut). By AI agents, Wed Nov 11 2026. No macro, syntax, notation, axiom, sorry.
-/
import Derived.Test.Qxb6617716aChecked
import GoSem.Claim
import GoSem.ClaimJoined
import GoSem.ClaimMapViews
import Derived.JoinedTies
import Derived.KernelRfl
namespace Go.Proofs.Qxb6617716a
/- THE CELL 'sum', in the pinned program and in every row, IS THE sha256 OF THE DUMP (.gsa) THAT Qxb6617716aProg.lean LOADS. Nothing in Lean hashes anything: it is a label: what it is worth is what the hold of that sum in a sandbox is worth. -/
noncomputable def Try.pinned : Pinned := { name := "qxb6617716a", sum := "6210594251f4211b62834126138a553365c7e3c573a1a75ea7af2a8b9bd336ea", checked := Try.checked }
namespace Rows
def none {H : Type} : Left H := { results := [], args := [] }

/-- 'zzlaws_pkg_trace_b1.FnAdvanceSplitsAndAppliesLatestChanges': WHATEVER THE INPUT: true; the input reads as it did. -/
def fnAdvanceSplitsAndAppliesLatestChangesSpec : ChangeSpec := { name := "fnAdvanceSplitsAndAppliesLatestChanges", fn := fun _ => fun
  | [d1, d2, d3, d4, d5, d6, d7, d8, d9, d10, d11, d12] => { results := [.lit (.bool true)], args := [d1, d2, d3, d4, d5, d6, d7, d8, d9, d10, d11, d12] }
  | _ => none }
def fnAdvanceSplitsAndAppliesLatestChangesRow : OpenClaim := { program := "qxb6617716a", sum := "6210594251f4211b62834126138a553365c7e3c573a1a75ea7af2a8b9bd336ea", func := "example.com/driftvote/driftvote/zzlaws_pkg_trace_b1.FnAdvanceSplitsAndAppliesLatestChanges", spec := "fnAdvanceSplitsAndAppliesLatestChanges", apart := false }
def FnAdvanceSplitsAndAppliesLatestChangesSaid : Prop := fnAdvanceSplitsAndAppliesLatestChangesRow.holds Try.pinned (OpenSpec.ofChange fnAdvanceSplitsAndAppliesLatestChangesSpec)

/-- ITS FALSE NEIGHBOUR: 'it returns false'. Refute it at one input. -/
def fnAdvanceSplitsAndAppliesLatestChangesWrong : ChangeSpec := { name := "fnAdvanceSplitsAndAppliesLatestChanges", fn := fun _ => fun
  | [d1, d2, d3, d4, d5, d6, d7, d8, d9, d10, d11, d12] => { results := [.lit (.bool false)], args := [d1, d2, d3, d4, d5, d6, d7, d8, d9, d10, d11, d12] }
  | _ => none }
def FnAdvanceSplitsAndAppliesLatestChangesWrongFalsely : Prop := fnAdvanceSplitsAndAppliesLatestChangesRow.holds Try.pinned (OpenSpec.ofChange fnAdvanceSplitsAndAppliesLatestChangesWrong)

end Rows
end Go.Proofs.Qxb6617716a
