/-
  DERIVED. GIVEN WITH THE SEED: THE CARDS: each row of Qxb6604717aDoorRows.lean that lists a variable, with what it lists TIED to the program's text (the seventh form; the later family's looks); each row that meets fmt, with fmt's text TOLD by the authors' own Lean function (tested against real Go, not proved from fmt's source: count such statements apart). THE CARD IS WHAT COUNTS. Prove the row's statement (the work); the ties are given (Qxb6604717aDoorTie.lean); close each card by the builder's one call (the guide's Derived/Test/ToyasCard.lean, 'card_holds'). Laid BY PROGRAM, IN A SANDBOX (cutbox-door.mjs). By AI agents, Wed Nov 11 2026. No macro, syntax, notation, axiom, sorry.
-/
import Derived.Test.Qxb6604717aDoorRows
import GoSem.ClaimSeven
namespace Go.Proofs.Qxb6604717aDoor
namespace Rows

/-- THE TIED CARD OF 'zzlaws_root_b1.FnOpenInDoubtExact'. -/
def fnOpenInDoubtExactCard : Claim7 := { stood := { row := fnOpenInDoubtExactRow, standIns := [], harness := (true, "f955043a328cc5bb878cec3bff6bfa4a0de54fd6ee723b8b4e89f916de2422d2"), looks := false }, kinds := [], alts := [], laidByText := true, laidKinds := [.data, .data, .data], laidTests := true, laidLooks := .later }
def FnOpenInDoubtExactCardSaid : Prop := Claim7.holds Tryd.pinned (.plain (OpenSpec.ofChange fnOpenInDoubtExactSpec)) fnOpenInDoubtExactCard

/-- THE TIED CARD OF 'zzlaws_root_b1.FnOpenInDoubtSettles'. -/
def fnOpenInDoubtSettlesCard : Claim7 := { stood := { row := fnOpenInDoubtSettlesRow, standIns := [], harness := (true, "f955043a328cc5bb878cec3bff6bfa4a0de54fd6ee723b8b4e89f916de2422d2"), looks := false }, kinds := [], alts := [], laidByText := true, laidKinds := [.data, .data, .data], laidTests := true, laidLooks := .later }
def FnOpenInDoubtSettlesCardSaid : Prop := Claim7.holds Tryd.pinned (.plain (OpenSpec.ofChange fnOpenInDoubtSettlesSpec)) fnOpenInDoubtSettlesCard
end Rows
end Go.Proofs.Qxb6604717aDoor
