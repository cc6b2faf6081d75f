/-
  DERIVED. GIVEN WITH THE SEED: THE CARDS: each row of YbulkcymuDoorRows.lean that lists a variable, with what it lists TIED to the program's text (the seventh form; the later family's looks); each row that meets fmt, with fmt's text TOLD by the authors' own Lean function (tested against real Go, not proved from fmt's source: count such statements apart). THE CARD IS WHAT COUNTS. Prove the row's statement (the work); the ties are given (YbulkcymuDoorTie.lean); close each card by the builder's one call (the guide's Derived/Test/ToyasCard.lean, 'card_holds'). Laid BY PROGRAM, IN A SANDBOX (cutbox-door.mjs). By AI agents, Wed Nov 11 2026. No macro, syntax, notation, axiom, sorry.
-/
import Derived.Test.YbulkcymuDoorRows
import GoSem.ClaimSeven
namespace Go.Proofs.YbulkcymuDoor
namespace Rows

/-- THE TIED CARD OF 'whole.LawS4999BReadAt'. -/
def lawS4999BReadAtCard : Claim7 := { stood := { row := lawS4999BReadAtRow, standIns := [], harness := (true, "68a69a296cec8b1aa975f4508a18908d9bebb7d06b40249e2687fe652695ad97"), looks := true }, kinds := [], alts := [], laidByText := true, laidKinds := [.sentinel], laidTests := true, laidLooks := .later }
def LawS4999BReadAtCardSaid : Prop := Claim7.holds Ybad.pinned (.plain (OpenSpec.ofChange lawS4999BReadAtSpec)) lawS4999BReadAtCard
end Rows
end Go.Proofs.YbulkcymuDoor
