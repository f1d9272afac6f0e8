/-
  No cell of these rows narrows 'for every input' (looked for: loops, veiled, ifaces, maps, wideKeys, modest, calm, conditions, laid).
  DERIVED. THE GIVEN ROWS OF THIS SEAT. 2 by the template 'for every input the law returns true; each argument reads behind the call as it read before'; 0 by the template 'total and deterministic' (their statements: Qxb6603808aTotals.lean).
  GIVEN WITH THE SEED: the statements are not yours to turn. If you find one false, say at which input.
  Laid BY PROGRAM, IN A SANDBOX (cutbox-rows.mjs): the forced cells as the released guide's own fill.sh prints them over the translation 7c2bb392acb14638… (all of the seat's roots in one cut). By AI agents, Wed Nov 11 2026. No macro, syntax, notation, axiom, sorry.
-/
import Derived.Test.Qxb6603808aChecked
import GoSem.Claim
import GoSem.ClaimJoined
import GoSem.ClaimMapViews
import Derived.JoinedTies
import Derived.KernelRfl
namespace Go.Proofs.Qxb6603808a
/- THE CELL 'sum', in the pinned program and in every row, IS THE sha256 OF THE DUMP (.gsa) THAT Qxb6603808aProg.lean LOADS. Nothing in Lean hashes anything: it is a label: what it is worth is what the hold of that sum in a sandbox is worth. -/
noncomputable def Try.pinned : Pinned := { name := "qxb6603808a", sum := "7c2bb392acb14638cf885d929d9c9c3b56b9143c932f70630da560806400ff72", checked := Try.checked }
namespace Rows
def none {H : Type} : Left H := { results := [], args := [] }

/-- 'zzlaws_internal_history_b1.FnUncheckedMovesCommute': WHATEVER THE INPUT: true; the input reads as it did. -/
def fnUncheckedMovesCommuteSpec : ChangeSpec := { name := "fnUncheckedMovesCommute", fn := fun _ => fun
  | [d1, d2, d3] => { results := [.lit (.bool true)], args := [d1, d2, d3] }
  | _ => none }
def fnUncheckedMovesCommuteRow : OpenClaim := { program := "qxb6603808a", sum := "7c2bb392acb14638cf885d929d9c9c3b56b9143c932f70630da560806400ff72", func := "example.com/lockwright/lockwright/zzlaws_internal_history_b1.FnUncheckedMovesCommute", spec := "fnUncheckedMovesCommute", apart := false }
def FnUncheckedMovesCommuteSaid : Prop := fnUncheckedMovesCommuteRow.holds Try.pinned (OpenSpec.ofChange fnUncheckedMovesCommuteSpec)

/-- ITS FALSE NEIGHBOUR: 'it returns false'. Refute it at one input. -/
def fnUncheckedMovesCommuteWrong : ChangeSpec := { name := "fnUncheckedMovesCommute", fn := fun _ => fun
  | [d1, d2, d3] => { results := [.lit (.bool false)], args := [d1, d2, d3] }
  | _ => none }
def FnUncheckedMovesCommuteWrongFalsely : Prop := fnUncheckedMovesCommuteRow.holds Try.pinned (OpenSpec.ofChange fnUncheckedMovesCommuteWrong)

/-- 'zzlaws_internal_history_b1.FnEqualSeesEveryChange': WHATEVER THE INPUT: true; the input reads as it did. -/
def fnEqualSeesEveryChangeSpec : ChangeSpec := { name := "fnEqualSeesEveryChange", fn := fun _ => fun
  | [d1, d2, d3] => { results := [.lit (.bool true)], args := [d1, d2, d3] }
  | _ => none }
def fnEqualSeesEveryChangeRow : OpenClaim := { program := "qxb6603808a", sum := "7c2bb392acb14638cf885d929d9c9c3b56b9143c932f70630da560806400ff72", func := "example.com/lockwright/lockwright/zzlaws_internal_history_b1.FnEqualSeesEveryChange", spec := "fnEqualSeesEveryChange", apart := false }
def FnEqualSeesEveryChangeSaid : Prop := fnEqualSeesEveryChangeRow.holds Try.pinned (OpenSpec.ofChange fnEqualSeesEveryChangeSpec)

/-- ITS FALSE NEIGHBOUR: 'it returns false'. Refute it at one input. -/
def fnEqualSeesEveryChangeWrong : ChangeSpec := { name := "fnEqualSeesEveryChange", fn := fun _ => fun
  | [d1, d2, d3] => { results := [.lit (.bool false)], args := [d1, d2, d3] }
  | _ => none }
def FnEqualSeesEveryChangeWrongFalsely : Prop := fnEqualSeesEveryChangeRow.holds Try.pinned (OpenSpec.ofChange fnEqualSeesEveryChangeWrong)

end Rows
end Go.Proofs.Qxb6603808a
