/-
  DERIVED. GIVEN WITH THE SEED: THE CARDS: each row of YbulkcyjoFmtRows.lean that lists a variable, with what it lists TIED to the program's text (the seventh form; the later family's looks); each row that meets fmt, with fmt's text TOLD by the authors' own Lean function (tested against real Go, not proved from fmt's source: count such statements apart). THE CARD IS WHAT COUNTS. Prove the row's statement (the work); the ties are given (YbulkcyjoFmtTie.lean); close each card by the builder's one call (the guide's Derived/Test/ToyasCard.lean, 'card_holds'). Laid BY PROGRAM, IN A SANDBOX (cutbox-door.mjs). By AI agents, Wed Nov 11 2026. No macro, syntax, notation, axiom, sorry.
-/
import Derived.Test.YbulkcyjoFmtRows
import GoSem.ClaimSeven
namespace Go.Proofs.YbulkcyjoFmt
namespace Rows

/-- THE TOLD CARD OF 'cost.LawS4993CExact'. -/
def lawS4993CExactCard : Claim7 := { stood := { row := lawS4993CExactRow, standIns := [], harness := (true, "4cff29cde354ed726abbd2051e7b0ebe465a2e40c80eb3f8f5d5b215ce089c47"), looks := false }, told := true, goes := false }
def LawS4993CExactToldSaid : Prop := Claim7.holds Ybaf.pinned (.plain (OpenSpec.ofChange lawS4993CExactSpec)) lawS4993CExactCard
/-- ITS FALSE NEIGHBOUR. Refute it at one input. -/
def LawS4993CExactToldWrongFalsely : Prop := Claim7.holds Ybaf.pinned (.plain (OpenSpec.ofChange lawS4993CExactWrong)) lawS4993CExactCard

/-- THE TOLD CARD OF 'cost.LawS4993CRoundTrip'. -/
def lawS4993CRoundTripCard : Claim7 := { stood := { row := lawS4993CRoundTripRow, standIns := [], harness := (true, "4cff29cde354ed726abbd2051e7b0ebe465a2e40c80eb3f8f5d5b215ce089c47"), looks := false }, told := true, goes := false }
def LawS4993CRoundTripToldSaid : Prop := Claim7.holds Ybaf.pinned (.plain (OpenSpec.ofChange lawS4993CRoundTripSpec)) lawS4993CRoundTripCard
/-- ITS FALSE NEIGHBOUR. Refute it at one input. -/
def LawS4993CRoundTripToldWrongFalsely : Prop := Claim7.holds Ybaf.pinned (.plain (OpenSpec.ofChange lawS4993CRoundTripWrong)) lawS4993CRoundTripCard
end Rows
end Go.Proofs.YbulkcyjoFmt
