/-
  No cell of these rows narrows 'for every input' (looked for: loops, veiled, ifaces, maps, wideKeys, modest, calm, conditions, laid).
  DERIVED. THE GIVEN ROWS OF THIS SEAT. 1 by the template 'for every input the law returns true; each argument reads behind the call as it read before'; 0 by the template 'total and deterministic' (their statements: YbulkcymuTotals.lean).
  GIVEN WITH THE SEED: the statements are not yours to turn. If you find one false, say at which input.
  Laid BY PROGRAM, IN A SANDBOX (cutbox-rows.mjs): the forced cells as the released guide's own fill.sh prints them over the translation 2e8ae6aa226e8380… (all of the seat's roots in one cut). By AI agents, Wed Nov 11 2026. No macro, syntax, notation, axiom, sorry.
-/
import Derived.Test.YbulkcymuChecked
import GoSem.Claim
import GoSem.ClaimJoined
import GoSem.ClaimMapViews
import Derived.JoinedTies
import Derived.KernelRfl
namespace Go.Proofs.Ybulkcymu
/- THE CELL 'sum', in the pinned program and in every row, IS THE sha256 OF THE DUMP (.gsa) THAT YbulkcymuProg.lean LOADS. Nothing in Lean hashes anything: it is a label: what it is worth is what the hold of that sum in a sandbox is worth. -/
noncomputable def Yba.pinned : Pinned := { name := "ybulkcymu", sum := "2e8ae6aa226e83806938912644c9a79dabd91df522c6b0340d8a1a29075f618d", checked := Yba.checked }
namespace Rows
def none {H : Type} : Left H := { results := [], args := [] }

/-- 'buffered.LawS4999CBlocks': WHATEVER THE INPUT: true; the input reads as it did. -/
def lawS4999CBlocksSpec : ChangeSpec := { name := "lawS4999CBlocks", fn := fun _ => fun
  | [d1, d2, d3, d4, d5] => { results := [.lit (.bool true)], args := [d1, d2, d3, d4, d5] }
  | _ => none }
def lawS4999CBlocksRow : OpenClaim := { program := "ybulkcymu", sum := "2e8ae6aa226e83806938912644c9a79dabd91df522c6b0340d8a1a29075f618d", func := "example.com/patchwright/patchwright/internal/buffered.LawS4999CBlocks", spec := "lawS4999CBlocks", apart := false }
def LawS4999CBlocksSaid : Prop := lawS4999CBlocksRow.holds Yba.pinned (OpenSpec.ofChange lawS4999CBlocksSpec)

/-- ITS FALSE NEIGHBOUR: 'it returns false'. Refute it at one input. -/
def lawS4999CBlocksWrong : ChangeSpec := { name := "lawS4999CBlocks", fn := fun _ => fun
  | [d1, d2, d3, d4, d5] => { results := [.lit (.bool false)], args := [d1, d2, d3, d4, d5] }
  | _ => none }
def LawS4999CBlocksWrongFalsely : Prop := lawS4999CBlocksRow.holds Yba.pinned (OpenSpec.ofChange lawS4999CBlocksWrong)

end Rows
end Go.Proofs.Ybulkcymu
