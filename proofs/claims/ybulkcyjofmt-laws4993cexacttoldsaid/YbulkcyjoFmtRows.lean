/-
  No cell of these rows narrows 'for every input' (looked for: loops, veiled, ifaces, maps, wideKeys, modest, calm, conditions, laid).
  DERIVED. THE GIVEN ROWS OF THIS SEAT. 2 by the template 'for every input the law returns true; each argument reads behind the call as it read before'; 0 by the template 'total and deterministic' (their statements: YbulkcyjoFmtTotals.lean).
  GIVEN WITH THE SEED: the statements are not yours to turn. If you find one false, say at which input.
  Laid BY PROGRAM, IN A SANDBOX (cutbox-rows.mjs): the forced cells as the released guide's own fill.sh prints them over the translation c98ada2eda061606… (all of the seat's roots in one cut). By AI agents, Wed Nov 11 2026. No macro, syntax, notation, axiom, sorry.
-/
import Derived.Test.YbulkcyjoFmtChecked
import GoSem.Claim
import GoSem.ClaimJoined
import GoSem.ClaimMapViews
import Derived.JoinedTies
import Derived.KernelRfl
namespace Go.Proofs.YbulkcyjoFmt
/- THE CELL 'sum', in the pinned program and in every row, IS THE sha256 OF THE DUMP (.gsa) THAT YbulkcyjoFmtProg.lean LOADS. Nothing in Lean hashes anything: it is a label: what it is worth is what the hold of that sum in a sandbox is worth. -/
noncomputable def Ybaf.pinned : Pinned := { name := "ybulkcyjofmt", sum := "c98ada2eda0616062d3fd3ded3d24d8eefc80666c16cd7692a11b64d0530d8e5", checked := Ybaf.checked }
namespace Rows
def none {H : Type} : Left H := { results := [], args := [] }

/-- 'cost.LawS4993CExact': WHATEVER THE INPUT: true; the input reads as it did. -/
def lawS4993CExactSpec : ChangeSpec := { name := "lawS4993CExact", fn := fun _ => fun
  | [d] => { results := [.lit (.bool true)], args := [d] }
  | _ => none }
def lawS4993CExactRow : OpenClaim := { program := "ybulkcyjofmt", sum := "c98ada2eda0616062d3fd3ded3d24d8eefc80666c16cd7692a11b64d0530d8e5", func := "example.com/vestline/vestline/cost.LawS4993CExact", spec := "lawS4993CExact", stops := ["fmt.Sprintf"], inPlace := ["fmt.Sprintf"], apart := false }
/-- NO THEOREM (fmt's text is open here; it may be false): for the released tool's asking of the row's closed facts alone. THE STATEMENT IS 'LawS4993CExactToldSaid' (YbulkcyjoFmtCards.lean). -/
def LawS4993CExactFormAsk : Prop := lawS4993CExactRow.holds Ybaf.pinned (OpenSpec.ofChange lawS4993CExactSpec)

/-- ITS FALSE NEIGHBOUR: 'it returns false'. Refute it at one input. -/
def lawS4993CExactWrong : ChangeSpec := { name := "lawS4993CExact", fn := fun _ => fun
  | [d] => { results := [.lit (.bool false)], args := [d] }
  | _ => none }
def LawS4993CExactWrongFormAsk : Prop := lawS4993CExactRow.holds Ybaf.pinned (OpenSpec.ofChange lawS4993CExactWrong)

/-- 'cost.LawS4993CRoundTrip': WHATEVER THE INPUT: true; the input reads as it did. -/
def lawS4993CRoundTripSpec : ChangeSpec := { name := "lawS4993CRoundTrip", fn := fun _ => fun
  | [d] => { results := [.lit (.bool true)], args := [d] }
  | _ => none }
def lawS4993CRoundTripRow : OpenClaim := { program := "ybulkcyjofmt", sum := "c98ada2eda0616062d3fd3ded3d24d8eefc80666c16cd7692a11b64d0530d8e5", func := "example.com/vestline/vestline/cost.LawS4993CRoundTrip", spec := "lawS4993CRoundTrip", stops := ["fmt.Sprintf"], inPlace := ["fmt.Sprintf"], apart := false }
/-- NO THEOREM (fmt's text is open here; it may be false): for the released tool's asking of the row's closed facts alone. THE STATEMENT IS 'LawS4993CRoundTripToldSaid' (YbulkcyjoFmtCards.lean). -/
def LawS4993CRoundTripFormAsk : Prop := lawS4993CRoundTripRow.holds Ybaf.pinned (OpenSpec.ofChange lawS4993CRoundTripSpec)

/-- ITS FALSE NEIGHBOUR: 'it returns false'. Refute it at one input. -/
def lawS4993CRoundTripWrong : ChangeSpec := { name := "lawS4993CRoundTrip", fn := fun _ => fun
  | [d] => { results := [.lit (.bool false)], args := [d] }
  | _ => none }
def LawS4993CRoundTripWrongFormAsk : Prop := lawS4993CRoundTripRow.holds Ybaf.pinned (OpenSpec.ofChange lawS4993CRoundTripWrong)

end Rows
end Go.Proofs.YbulkcyjoFmt
