/-
  No cell of these rows narrows 'for every input' (looked for: loops, veiled, ifaces, maps, wideKeys, modest, calm, conditions, laid).
  DERIVED. THE GIVEN ROWS OF THIS SEAT. 2 by the template 'for every input the law returns true; each argument reads behind the call as it read before'; 0 by the template 'total and deterministic' (their statements: Qxb6618313aTotals.lean).
  GIVEN WITH THE SEED: the statements are not yours to turn. If you find one false, say at which input.
  Laid BY PROGRAM, IN A SANDBOX (cutbox-rows.mjs): the forced cells as the released guide's own fill.sh prints them over the translation 09a0d52aa8809a72… (all of the seat's roots in one cut). By AI agents, Wed Nov 11 2026. No macro, syntax, notation, axiom, sorry.
-/
import Derived.Test.Qxb6618313aChecked
import GoSem.Claim
import GoSem.ClaimJoined
import GoSem.ClaimMapViews
import Derived.JoinedTies
import Derived.KernelRfl
namespace Go.Proofs.Qxb6618313a
/- THE CELL 'sum', in the pinned program and in every row, IS THE sha256 OF THE DUMP (.gsa) THAT Qxb6618313aProg.lean LOADS. Nothing in Lean hashes anything: it is a label: what it is worth is what the hold of that sum in a sandbox is worth. -/
noncomputable def Try.pinned : Pinned := { name := "qxb6618313a", sum := "09a0d52aa8809a7226a8f495f2b6a51c3dae9fcfa75399df70f99112d99af3f0", checked := Try.checked }
namespace Rows
def none {H : Type} : Left H := { results := [], args := [] }

/-- 'zzlaws_internal_linearize_b1.FnFifoStepScriptMatchesLogModel': WHATEVER THE INPUT: true; the input reads as it did. -/
def fnFifoStepScriptMatchesLogModelSpec : ChangeSpec := { name := "fnFifoStepScriptMatchesLogModel", fn := fun _ => fun
  | [d1, d2, d3, d4] => { results := [.lit (.bool true)], args := [d1, d2, d3, d4] }
  | _ => none }
def fnFifoStepScriptMatchesLogModelRow : OpenClaim := { program := "qxb6618313a", sum := "09a0d52aa8809a7226a8f495f2b6a51c3dae9fcfa75399df70f99112d99af3f0", func := "example.com/turnstile/turnstile/zzlaws_internal_linearize_b1.FnFifoStepScriptMatchesLogModel", spec := "fnFifoStepScriptMatchesLogModel", apart := false }
def FnFifoStepScriptMatchesLogModelSaid : Prop := fnFifoStepScriptMatchesLogModelRow.holds Try.pinned (OpenSpec.ofChange fnFifoStepScriptMatchesLogModelSpec)

/-- ITS FALSE NEIGHBOUR: 'it returns false'. Refute it at one input. -/
def fnFifoStepScriptMatchesLogModelWrong : ChangeSpec := { name := "fnFifoStepScriptMatchesLogModel", fn := fun _ => fun
  | [d1, d2, d3, d4] => { results := [.lit (.bool false)], args := [d1, d2, d3, d4] }
  | _ => none }
def FnFifoStepScriptMatchesLogModelWrongFalsely : Prop := fnFifoStepScriptMatchesLogModelRow.holds Try.pinned (OpenSpec.ofChange fnFifoStepScriptMatchesLogModelWrong)

/-- 'zzlaws_internal_linearize_b1.FnFifoStepEnqueueSuccessorsShareNoArray': WHATEVER THE INPUT: true; the input reads as it did. -/
def fnFifoStepEnqueueSuccessorsShareNoArraySpec : ChangeSpec := { name := "fnFifoStepEnqueueSuccessorsShareNoArray", fn := fun _ => fun
  | [d1, d2, d3, d4, d5] => { results := [.lit (.bool true)], args := [d1, d2, d3, d4, d5] }
  | _ => none }
def fnFifoStepEnqueueSuccessorsShareNoArrayRow : OpenClaim := { program := "qxb6618313a", sum := "09a0d52aa8809a7226a8f495f2b6a51c3dae9fcfa75399df70f99112d99af3f0", func := "example.com/turnstile/turnstile/zzlaws_internal_linearize_b1.FnFifoStepEnqueueSuccessorsShareNoArray", spec := "fnFifoStepEnqueueSuccessorsShareNoArray", apart := false }
def FnFifoStepEnqueueSuccessorsShareNoArraySaid : Prop := fnFifoStepEnqueueSuccessorsShareNoArrayRow.holds Try.pinned (OpenSpec.ofChange fnFifoStepEnqueueSuccessorsShareNoArraySpec)

/-- ITS FALSE NEIGHBOUR: 'it returns false'. Refute it at one input. -/
def fnFifoStepEnqueueSuccessorsShareNoArrayWrong : ChangeSpec := { name := "fnFifoStepEnqueueSuccessorsShareNoArray", fn := fun _ => fun
  | [d1, d2, d3, d4, d5] => { results := [.lit (.bool false)], args := [d1, d2, d3, d4, d5] }
  | _ => none }
def FnFifoStepEnqueueSuccessorsShareNoArrayWrongFalsely : Prop := fnFifoStepEnqueueSuccessorsShareNoArrayRow.holds Try.pinned (OpenSpec.ofChange fnFifoStepEnqueueSuccessorsShareNoArrayWrong)

end Rows
end Go.Proofs.Qxb6618313a
