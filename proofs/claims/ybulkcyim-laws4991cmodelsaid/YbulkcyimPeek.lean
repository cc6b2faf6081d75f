import Derived.Test.YbulkcyimRows
import Derived.WalkKit
import Derived.WalkSpells
import Derived.Deep.QuietTactic
import Derived.BigQuiet
namespace Go.Proofs.Ybulkcyim.Hex
open Go.RowKit
set_option linter.unusedVariables false

theorem peek_end (sb tb to n cap : Nat) (w : World)
    (c0 : w.cell? ⟨sb, 0, none⟩ = some (.slice (some ⟨tb, to, none⟩) n cap))
    (c1 : w.cell? ⟨sb, 1, none⟩ = some (.int .i64 (n : Int))) :
    Calls Yba.prog 12 #[.pointer (some ⟨sb, 0, none⟩)] w fun e w' => e = .returned (.int .u8 0) ∧ ∃ k, w' = w.drewN k := by
  go_enter Yba.func12, Yba.ntmps12
  go_wp2
  go_quiet (fail)
  go_wp2
  go_ret
  exact ⟨rfl, _, rfl⟩

theorem peek_in (sb tb to n cap p : Nat) (x : Int) (w : World)
    (c0 : w.cell? ⟨sb, 0, none⟩ = some (.slice (some ⟨tb, to, none⟩) n cap))
    (c1 : w.cell? ⟨sb, 1, none⟩ = some (.int .i64 (p : Int))) (hp : p < n) (hn : n ≤ 100000)
    (hT : w.cell? ⟨tb, to + p, none⟩ = some (.int .u8 x)) :
    Calls Yba.prog 12 #[.pointer (some ⟨sb, 0, none⟩)] w fun e w' => e = .returned (.int .u8 x) ∧ ∃ k, w' = w.drewN k := by
  have h1 : ((p : Int) == (n : Int)) = false := by simp; omega
  have h2 : (p : Int) < (n : Int) := by omega
  go_enter Yba.func12, Yba.ntmps12
  go_wp2
  go_quiet (fail)
  go_wp2
  go_quiet (fail)
  go_wp2
  go_ret
  exact ⟨rfl, _, World.drewN_drewN ..⟩

/-- peek: the byte at pos, 0 at the text's end. -/
theorem peek_any (sb tb to n cap p : Nat) (zs : List Int) (w : World)
    (c0 : w.cell? ⟨sb, 0, none⟩ = some (.slice (some ⟨tb, to, none⟩) n cap))
    (c1 : w.cell? ⟨sb, 1, none⟩ = some (.int .i64 (p : Int))) (hz : zs.length = n) (hp : p ≤ n) (hn : n ≤ 100000)
    (hT : p < n → w.cell? ⟨tb, to + p, none⟩ = some (.int .u8 (zs.getD p 0))) :
    Calls Yba.prog 12 #[.pointer (some ⟨sb, 0, none⟩)] w fun e w' => e = .returned (.int .u8 (zs.getD p 0)) ∧ ∃ k, w' = w.drewN k := by
  by_cases h : p < n
  · exact peek_in sb tb to n cap p _ w c0 c1 h hn (hT h)
  · have e : p = n := by omega
    subst e
    have : zs.getD p 0 = 0 := by simp [List.getD, hz]
    rw [this]
    exact peek_end sb tb to p cap w c0 c1
end Go.Proofs.Ybulkcyim.Hex
