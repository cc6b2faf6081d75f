/-
  No cell of these rows narrows 'for every input' (looked for: loops, veiled, ifaces, maps, wideKeys, modest, calm, conditions, laid).
  DERIVED. THE GIVEN ROWS OF THIS SEAT. 4 by the template 'for every input the law returns true; each argument reads behind the call as it read before'; 0 by the template 'total and deterministic' (their statements: YbulkcyimTotals.lean).
  GIVEN WITH THE SEED: the statements are not yours to turn. If you find one false, say at which input.
  Laid BY PROGRAM, IN A SANDBOX (cutbox-rows.mjs): the forced cells as the released guide's own fill.sh prints them over the translation b413863ee3709ba0… (all of the seat's roots in one cut). By AI agents, Wed Nov 11 2026. No macro, syntax, notation, axiom, sorry.
-/
import Derived.Test.YbulkcyimChecked
import GoSem.Claim
import GoSem.ClaimJoined
import GoSem.ClaimMapViews
import Derived.JoinedTies
import Derived.KernelRfl
namespace Go.Proofs.Ybulkcyim
/- THE CELL 'sum', in the pinned program and in every row, IS THE sha256 OF THE DUMP (.gsa) THAT YbulkcyimProg.lean LOADS. Nothing in Lean hashes anything: it is a label: what it is worth is what the hold of that sum in a sandbox is worth. -/
noncomputable def Yba.pinned : Pinned := { name := "ybulkcyim", sum := "b413863ee3709ba0eb895b018d78417bab93b006afa2e51262f946f285e304a1", checked := Yba.checked }
namespace Rows
def none {H : Type} : Left H := { results := [], args := [] }

/-- 'precedent.LawS4991BAnswer': WHATEVER THE INPUT: true; the input reads as it did. -/
def lawS4991BAnswerSpec : ChangeSpec := { name := "lawS4991BAnswer", fn := fun _ => fun
  | [d1, d2, d3, d4, d5] => { results := [.lit (.bool true)], args := [d1, d2, d3, d4, d5] }
  | _ => none }
def lawS4991BAnswerRow : OpenClaim := { program := "ybulkcyim", sum := "b413863ee3709ba0eb895b018d78417bab93b006afa2e51262f946f285e304a1", func := "example.com/precedent/precedent.LawS4991BAnswer", spec := "lawS4991BAnswer", inPlace := ["(*internal/sync.Mutex).Lock", "internal/race.Disable", "sync/atomic.CompareAndSwapInt32", "internal/race.Enable", "internal/race.Acquire", "(*internal/sync.Mutex).lockSlow", "internal/sync.runtime_canSpin", "internal/sync.runtime_doSpin", "internal/sync.throw", "internal/sync.runtime_nanotime", "internal/sync.runtime_SemacquireMutex", "sync/atomic.AddInt32", "(*internal/sync.Mutex).Unlock", "internal/race.ReleaseMerge", "(*internal/sync.Mutex).unlockSlow", "internal/sync.fatal", "internal/sync.runtime_Semrelease"], apart := false }
def LawS4991BAnswerSaid : Prop := lawS4991BAnswerRow.holds Yba.pinned (OpenSpec.ofChange lawS4991BAnswerSpec)

/-- ITS FALSE NEIGHBOUR: 'it returns false'. Refute it at one input. -/
def lawS4991BAnswerWrong : ChangeSpec := { name := "lawS4991BAnswer", fn := fun _ => fun
  | [d1, d2, d3, d4, d5] => { results := [.lit (.bool false)], args := [d1, d2, d3, d4, d5] }
  | _ => none }
def LawS4991BAnswerWrongFalsely : Prop := lawS4991BAnswerRow.holds Yba.pinned (OpenSpec.ofChange lawS4991BAnswerWrong)

/-- 'precedent.LawS4991BEffects': WHATEVER THE INPUT: true; the input reads as it did. -/
def lawS4991BEffectsSpec : ChangeSpec := { name := "lawS4991BEffects", fn := fun _ => fun
  | [d1, d2, d3, d4, d5] => { results := [.lit (.bool true)], args := [d1, d2, d3, d4, d5] }
  | _ => none }
def lawS4991BEffectsRow : OpenClaim := { program := "ybulkcyim", sum := "b413863ee3709ba0eb895b018d78417bab93b006afa2e51262f946f285e304a1", func := "example.com/precedent/precedent.LawS4991BEffects", spec := "lawS4991BEffects", inPlace := ["(*internal/sync.Mutex).Lock", "internal/race.Disable", "sync/atomic.CompareAndSwapInt32", "internal/race.Enable", "internal/race.Acquire", "(*internal/sync.Mutex).lockSlow", "internal/sync.runtime_canSpin", "internal/sync.runtime_doSpin", "internal/sync.throw", "internal/sync.runtime_nanotime", "internal/sync.runtime_SemacquireMutex", "sync/atomic.AddInt32", "(*internal/sync.Mutex).Unlock", "internal/race.ReleaseMerge", "(*internal/sync.Mutex).unlockSlow", "internal/sync.fatal", "internal/sync.runtime_Semrelease"], apart := false }
def LawS4991BEffectsSaid : Prop := lawS4991BEffectsRow.holds Yba.pinned (OpenSpec.ofChange lawS4991BEffectsSpec)

/-- ITS FALSE NEIGHBOUR: 'it returns false'. Refute it at one input. -/
def lawS4991BEffectsWrong : ChangeSpec := { name := "lawS4991BEffects", fn := fun _ => fun
  | [d1, d2, d3, d4, d5] => { results := [.lit (.bool false)], args := [d1, d2, d3, d4, d5] }
  | _ => none }
def LawS4991BEffectsWrongFalsely : Prop := lawS4991BEffectsRow.holds Yba.pinned (OpenSpec.ofChange lawS4991BEffectsWrong)

/-- 'precedent.LawS4991CModel': WHATEVER THE INPUT: true; the input reads as it did. -/
def lawS4991CModelSpec : ChangeSpec := { name := "lawS4991CModel", fn := fun _ => fun
  | [d1, d2] => { results := [.lit (.bool true)], args := [d1, d2] }
  | _ => none }
def lawS4991CModelRow : OpenClaim := { program := "ybulkcyim", sum := "b413863ee3709ba0eb895b018d78417bab93b006afa2e51262f946f285e304a1", func := "example.com/precedent/precedent.LawS4991CModel", spec := "lawS4991CModel", apart := false }
def LawS4991CModelSaid : Prop := lawS4991CModelRow.holds Yba.pinned (OpenSpec.ofChange lawS4991CModelSpec)

/-- ITS FALSE NEIGHBOUR: 'it returns false'. Refute it at one input. -/
def lawS4991CModelWrong : ChangeSpec := { name := "lawS4991CModel", fn := fun _ => fun
  | [d1, d2] => { results := [.lit (.bool false)], args := [d1, d2] }
  | _ => none }
def LawS4991CModelWrongFalsely : Prop := lawS4991CModelRow.holds Yba.pinned (OpenSpec.ofChange lawS4991CModelWrong)

/-- 'precedent.LawS4991CValid': WHATEVER THE INPUT: true; the input reads as it did. -/
def lawS4991CValidSpec : ChangeSpec := { name := "lawS4991CValid", fn := fun _ => fun
  | [d1, d2, d3, d4] => { results := [.lit (.bool true)], args := [d1, d2, d3, d4] }
  | _ => none }
def lawS4991CValidRow : OpenClaim := { program := "ybulkcyim", sum := "b413863ee3709ba0eb895b018d78417bab93b006afa2e51262f946f285e304a1", func := "example.com/precedent/precedent.LawS4991CValid", spec := "lawS4991CValid", apart := false }
def LawS4991CValidSaid : Prop := lawS4991CValidRow.holds Yba.pinned (OpenSpec.ofChange lawS4991CValidSpec)

/-- ITS FALSE NEIGHBOUR: 'it returns false'. Refute it at one input. -/
def lawS4991CValidWrong : ChangeSpec := { name := "lawS4991CValid", fn := fun _ => fun
  | [d1, d2, d3, d4] => { results := [.lit (.bool false)], args := [d1, d2, d3, d4] }
  | _ => none }
def LawS4991CValidWrongFalsely : Prop := lawS4991CValidRow.holds Yba.pinned (OpenSpec.ofChange lawS4991CValidWrong)

end Rows
end Go.Proofs.Ybulkcyim
