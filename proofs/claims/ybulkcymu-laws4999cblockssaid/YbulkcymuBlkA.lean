import Derived.Test.YbulkcymuRows
import Derived.WalkKit
import Derived.WalkSpells
import Derived.Deep.QuietTactic
import Derived.BigQuiet
import Derived.Laws.CopyOwn
import Derived.Laws.ShiftsVarLaws
import Derived.Laws.BitsAllLaws
namespace Go.Proofs.Ybulkcymu.Blk
open Go.RowKit
set_option linter.unusedVariables false

theorem fit_end {a b c : Int} (ha : 0 ≤ a) (hb : 1 ≤ b) (hab : a + b ≤ 9223372036854775807) (hc : 0 ≤ c) (hc2 : c ≤ 46) :
    ∃ o m q : Nat, Ending.returned (.tuple #[.int .i64 a, .int .i64 b, .int .u64 c]) = .returned (.tuple #[.int .i64 (o : Int), .int .i64 (m : Int), .int .u64 (q : Int)]) ∧ 1 ≤ m ∧ o + m ≤ 9223372036854775807 ∧ q ≤ 46 := by
  refine ⟨a.toNat, b.toNat, c.toNat, ?_, by omega, by omega, by omega⟩
  rw [Int.toNat_of_nonneg ha, Int.toNat_of_nonneg (by omega), Int.toNat_of_nonneg hc]

set_option maxHeartbeats 1000000 in
theorem fit_any (off n s : Int) (w : World) (h1 : -9223372036854775808 ≤ off) (h2 : off ≤ 9223372036854775807) (h3 : -9223372036854775808 ≤ n) (h4 : n ≤ 9223372036854775807) (h5 : 0 ≤ s) (h6 : s ≤ 255) :
    Calls Yba.prog 4 #[.int .i64 off, .int .i64 n, .int .u8 s] w fun e w' => w = w' ∧ ∃ o m q : Nat, e = .returned (.tuple #[.int .i64 (o : Int), .int .i64 (m : Int), .int .u64 (q : Int)]) ∧ 1 ≤ m ∧ o + m ≤ 9223372036854775807 ∧ q ≤ 46 := by
  go_enter Yba.func4, Yba.ntmps4
  go_wp2
  all_goals
    go_ret3
    refine ⟨rfl, fit_end ?_ ?_ ?_ ?_ ?_⟩ <;> (simp only [beq_iff_eq, beq_eq_false_iff_ne, ne_eq, wrap64] at * <;> omega)

set_option maxHeartbeats 400000 in
theorem block_any (ob : Nat) (x s : Nat) (w : World) (hx : x ≤ 9223372036854775807) (hs : s ≤ 46) (h7 : w.cell? ⟨ob, 7, none⟩ = some (.int .u64 (s : Int))) :
    Calls Yba.prog 7 #[.pointer (some ⟨ob, 0, none⟩), .int .i64 (x : Int)] w fun e w' => w = w' ∧ e = .returned (.int .i64 ((min (x / 2 ^ s) 65535 : Nat) : Int)) := by
  go_enter Yba.func7, Yba.ntmps7
  go_wp2
  all_goals
    go_ret
    refine ⟨rfl, ?_⟩
    have hq : (x : Int) / 2 ^ s = ((x / 2 ^ s : Nat) : Int) := by simp
    rw [hq] at h
    rw [show min (x / 2 ^ s) 65535 = _ from by first | exact Nat.min_eq_left (by omega) | exact Nat.min_eq_right (by omega)]
    first | rfl | (rw [hq]; rfl)

/-- The overlay's state: its words' row, its shift. -/
structure MS (ob B s : Nat) (W : Nat → Nat) (w : World) : Prop where
  r6 : w.cell? ⟨ob, 6, none⟩ = some (.slice (some ⟨B, 0, none⟩) 1024 1024)
  r7 : w.cell? ⟨ob, 7, none⟩ = some (.int .u64 (s : Int))
  row : ∀ j, j < 1024 → w.cell? ⟨B, j, none⟩ = some (.int .u64 (W j : Int))
  fz : ∀ j, w.frozen? ⟨B, j, none⟩ = false
  bd : ∀ j, W j < 18446744073709551616
  ne : B ≠ ob

end Go.Proofs.Ybulkcymu.Blk
