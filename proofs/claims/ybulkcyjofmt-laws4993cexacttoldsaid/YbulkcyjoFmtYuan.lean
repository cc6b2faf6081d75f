import Derived.Test.YbulkcyjoFmtRows
import Derived.Test.YbulkcyjoFmtFacts
import Derived.WalkKit
import Derived.WalkSpells
import Derived.Stop.FmtTextWidths
import Derived.Stop.FmtTextKit
import Derived.Stop.Texts
import Derived.Stop.JoinedTold
namespace Go.Proofs.YbulkcyjoFmt
open Go.RowKit Go.Extern.Stop Go.Stop Go.Extern Go.Kit
set_option linter.unusedVariables false
attribute [local go_sem] Ybaf.call7 Ybaf.guard Ybaf.fmt2 Ybaf.fmt2r Ybaf.op23_100 Ybaf.op9_115

/-- What fmt is asked. -/
def reading (sg : List UInt8) (a b : Int) : List (List UInt8) :=
  [[37, 115, 37, 100, 46, 37, 48, 50, 100], Ybaf.shape9, FmtStop.pack sg, Ybaf.shape23, digits 8 (a % 18446744073709551616).toNat, Ybaf.shape23, digits 8 (b % 18446744073709551616).toNat]
/-- Two digits. -/
def two (r : Nat) : List UInt8 := [UInt8.ofNat (48 + r / 10), UInt8.ofNat (48 + r % 10)]
/-- The text of m hundredths behind the sign. -/
def yuan (sg : List UInt8) (m : Nat) : List UInt8 := sg ++ (Lib.decDigits (m / 100) ++ (46 :: two (m % 100)))

theorem t_parse : (FmtText.parse [37, 115, 37, 100, 46, 37, 48, 50, 100]).map FmtText.glue = some [.verb {} 115, .verb {} 100, .lit [46], .verb { widPresent := true, wid := 2, zero := true } 100] := by rfl

theorem zeros_two (r : Nat) (h : r < 100) : FmtText.zeros 2 (r : Int) = two r := by
  unfold FmtText.zeros two
  rw [if_neg (by omega), Int.toNat_natCast]
  by_cases h1 : r < 10
  · rw [Lib.decDigits_one h1, show r / 10 = 0 by omega, show r % 10 = r by omega]; rfl
  · rw [Lib.decDigits_two h1 h]; rfl

theorem t_text (sg : List UInt8) (m : Nat) (hs : sg.length < 2 ^ 64) (hm : m < 18446744073709551616) : FmtText.text "fmt.Sprintf" (reading sg ((m / 100 : Nat) : Int) ((m % 100 : Nat) : Int)) = some (yuan sg m) := by
  have wa : (Lit.int .u64 ((m / 100 : Nat) : Int)).wf = true := by simp [Lit.wf, IntKind.min, IntKind.max, IntKind.signed, IntKind.bits]; omega
  have wb : (Lit.int .u64 ((m % 100 : Nat) : Int)).wf = true := by simp [Lit.wf, IntKind.min, IntKind.max, IntKind.signed, IntKind.bits]; omega
  have hi := FmtText.operand_int_at (sh := Ybaf.shape23) (k := .u64) rfl rfl _ wa
  have hj := FmtText.operand_int_at (sh := Ybaf.shape23) (k := .u64) rfl rfl _ wb
  have hn := FmtText.operand_str_at (sh := Ybaf.shape9) rfl rfl sg hs
  rw [reading, FmtText.text_sprintf_glued t_parse (FmtText.operands_cons hn (FmtText.operands_cons hi (FmtText.operands_cons hj FmtText.operands_nil)))]
  have hd : Lib.itoa ((m / 100 : Nat) : Int) = Lib.decDigits (m / 100) := by unfold Lib.itoa; rw [if_neg (by omega), Int.toNat_natCast]
  simp only [FmtText.render, FmtText.printArg_s_str, FmtText.printArg_d _ _ wa, FmtText.printArg_d_zero _ 2 _ wb, hd, zeros_two _ (Nat.mod_lt m (by decide : 100 > 0))]
  rfl

theorem yuan_length (sg : List UInt8) (m : Nat) (hs : sg.length ≤ 1) (hm : m < 18446744073709551616) : (yuan sg m).length ≤ 30 := by
  have wa : (Lit.int .u64 ((m / 100 : Nat) : Int)).wf = true := by simp [Lit.wf, IntKind.min, IntKind.max, IntKind.signed, IntKind.bits]; omega
  have h := FmtText.itoa_length_le wa
  have hd : Lib.itoa ((m / 100 : Nat) : Int) = Lib.decDigits (m / 100) := by unfold Lib.itoa; rw [if_neg (by omega), Int.toNat_natCast]
  rw [hd] at h
  simp [yuan, two]
  omega

/-- The string that a told Sprintf hands back. -/
theorem told_text (F : Interp) (sg : List UInt8) (m : Nat) (hs : sg.length ≤ 1) (hm : m < 18446744073709551616) :
    FmtStop.textOf (F.told "fmt.Sprintf" (reading sg ((m / 100 : Nat) : Int) ((m % 100 : Nat) : Int)) 0) = ⟨(yuan sg m).toArray⟩ := by
  have hl := yuan_length sg m hs hm
  have ht := told_string F (t_text sg m (by omega) hm) (by omega)
  apply ByteArray.ext
  apply Array.toList_inj.1
  rw [textOf_list, ht]

def sgn (fen : Int) : List UInt8 := if fen < 0 then [45] else []

theorem neg_wrap (m : Nat) (h0 : 1 ≤ m) (h1 : m ≤ 9223372036854775808) : IntKind.u64.wrap (-IntKind.u64.wrap (-(m : Int))) = (m : Int) := by
  simp [IntKind.wrap, IntKind.bits, IntKind.signed]; omega

set_option maxHeartbeats 400000 in
theorem yuan_neg (F : Interp) (m : Nat) (w : World) (h0 : 1 ≤ m) (h1 : m ≤ 9223372036854775808) (hF : F.told.answers w.tape) :
    Calls Ybaf.prog 6 #[.int .i64 (-(m : Int))] w fun e w' => e = .returned (.string ⟨(yuan [45] m).toArray⟩) ∧ Below w.heap.size w w' := by
  have hF' := answers_open hF
  have ht := told_text F [45] m (by simp) (by omega)
  rw [← ht]
  unfold reading
  rw [show ((m / 100 : Nat) : Int) = (m : Int) / 100 by omega, show ((m % 100 : Nat) : Int) = (m : Int) % 100 by omega]
  have hw := neg_wrap m h0 h1
  have hn : -(m : Int) < 0 := by omega
  clear ht hF
  go_enter Ybaf.func6, Ybaf.ntmps6
  go_wp2
  go_ret
  exact ⟨rfl, ((Below.refl _ w).alloc (Nat.le_refl _) _).drew⟩

set_option maxHeartbeats 400000 in
theorem yuan_pos (F : Interp) (m : Nat) (w : World) (h1 : m ≤ 9223372036854775807) (hF : F.told.answers w.tape) :
    Calls Ybaf.prog 6 #[.int .i64 (m : Int)] w fun e w' => e = .returned (.string ⟨(yuan [] m).toArray⟩) ∧ Below w.heap.size w w' := by
  have hF' := answers_open hF
  have ht := told_text F [] m (by simp) (by omega)
  rw [← ht]
  unfold reading
  rw [show ((m / 100 : Nat) : Int) = (m : Int) / 100 by omega, show ((m % 100 : Nat) : Int) = (m : Int) % 100 by omega]
  have hn : ¬ (m : Int) < 0 := by omega
  clear ht hF
  go_enter Ybaf.func6, Ybaf.ntmps6
  go_wp2
  go_ret
  exact ⟨rfl, ((Below.refl _ w).alloc (Nat.le_refl _) _).drew⟩
end Go.Proofs.YbulkcyjoFmt
