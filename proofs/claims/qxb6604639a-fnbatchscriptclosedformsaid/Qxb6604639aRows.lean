/-
  No cell of these rows narrows 'for every input' (looked for: loops, veiled, ifaces, maps, wideKeys, modest, calm, conditions, laid).
  DERIVED. THE GIVEN ROWS OF THIS SEAT. 2 by the template 'for every input the law returns true; each argument reads behind the call as it read before'; 0 by the template 'total and deterministic' (their statements: Qxb6604639aTotals.lean).
  GIVEN WITH THE SEED: the statements are not yours to turn. If you find one false, say at which input.
  Laid BY PROGRAM, IN A SANDBOX (cutbox-rows.mjs): the forced cells as the released guide's own fill.sh prints them over the translation 16179086bf7eae7c… (all of the seat's roots in one cut). By AI agents, Wed Nov 11 2026. No macro, syntax, notation, axiom, sorry.
-/
import Derived.Test.Qxb6604639aChecked
import GoSem.Claim
import GoSem.ClaimJoined
import GoSem.ClaimMapViews
import Derived.JoinedTies
import Derived.KernelRfl
namespace Go.Proofs.Qxb6604639a
/- THE CELL 'sum', in the pinned program and in every row, IS THE sha256 OF THE DUMP (.gsa) THAT Qxb6604639aProg.lean LOADS. Nothing in Lean hashes anything: it is a label: what it is worth is what the hold of that sum in a sandbox is worth. -/
noncomputable def Try.pinned : Pinned := { name := "qxb6604639a", sum := "16179086bf7eae7c3a1c8689fa8c5b60952a9d9844ce8dd0a4562995b317c5fc", checked := Try.checked }
namespace Rows
def none {H : Type} : Left H := { results := [], args := [] }

/-- 'zzlaws_internal_relay_b1.FnBatchScriptClosedForm': WHATEVER THE INPUT: true; the input reads as it did. -/
def fnBatchScriptClosedFormSpec : ChangeSpec := { name := "fnBatchScriptClosedForm", fn := fun _ => fun
  | [d1, d2, d3, d4, d5, d6] => { results := [.lit (.bool true)], args := [d1, d2, d3, d4, d5, d6] }
  | _ => none }
def fnBatchScriptClosedFormRow : OpenClaim := { program := "qxb6604639a", sum := "16179086bf7eae7c3a1c8689fa8c5b60952a9d9844ce8dd0a4562995b317c5fc", func := "example.com/onceward/onceward/zzlaws_internal_relay_b1.FnBatchScriptClosedForm", spec := "fnBatchScriptClosedForm", apart := false }
def FnBatchScriptClosedFormSaid : Prop := fnBatchScriptClosedFormRow.holds Try.pinned (OpenSpec.ofChange fnBatchScriptClosedFormSpec)

/-- ITS FALSE NEIGHBOUR: 'it returns false'. Refute it at one input. -/
def fnBatchScriptClosedFormWrong : ChangeSpec := { name := "fnBatchScriptClosedForm", fn := fun _ => fun
  | [d1, d2, d3, d4, d5, d6] => { results := [.lit (.bool false)], args := [d1, d2, d3, d4, d5, d6] }
  | _ => none }
def FnBatchScriptClosedFormWrongFalsely : Prop := fnBatchScriptClosedFormRow.holds Try.pinned (OpenSpec.ofChange fnBatchScriptClosedFormWrong)

/-- 'zzlaws_internal_relay_b1.FnBatchShiftInvariant': WHATEVER THE INPUT: true; the input reads as it did. -/
def fnBatchShiftInvariantSpec : ChangeSpec := { name := "fnBatchShiftInvariant", fn := fun _ => fun
  | [d1, d2, d3, d4, d5, d6, d7] => { results := [.lit (.bool true)], args := [d1, d2, d3, d4, d5, d6, d7] }
  | _ => none }
def fnBatchShiftInvariantRow : OpenClaim := { program := "qxb6604639a", sum := "16179086bf7eae7c3a1c8689fa8c5b60952a9d9844ce8dd0a4562995b317c5fc", func := "example.com/onceward/onceward/zzlaws_internal_relay_b1.FnBatchShiftInvariant", spec := "fnBatchShiftInvariant", apart := false }
def FnBatchShiftInvariantSaid : Prop := fnBatchShiftInvariantRow.holds Try.pinned (OpenSpec.ofChange fnBatchShiftInvariantSpec)

/-- ITS FALSE NEIGHBOUR: 'it returns false'. Refute it at one input. -/
def fnBatchShiftInvariantWrong : ChangeSpec := { name := "fnBatchShiftInvariant", fn := fun _ => fun
  | [d1, d2, d3, d4, d5, d6, d7] => { results := [.lit (.bool false)], args := [d1, d2, d3, d4, d5, d6, d7] }
  | _ => none }
def FnBatchShiftInvariantWrongFalsely : Prop := fnBatchShiftInvariantRow.holds Try.pinned (OpenSpec.ofChange fnBatchShiftInvariantWrong)

end Rows
end Go.Proofs.Qxb6604639a
