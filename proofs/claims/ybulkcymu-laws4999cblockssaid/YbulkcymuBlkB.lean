import Derived.Test.YbulkcymuBlkA
import Derived.BigRegion
namespace Go.Proofs.Ybulkcymu.Blk
open Go.RowKit
set_option linter.unusedVariables false

theorem pow_lt (r : Nat) (hr : r < 64) : 2 ^ r < 18446744073709551616 := by
  have := Nat.pow_lt_pow_right (a := 2) (by omega) hr
  simpa using this
theorem wrap_pow (r : Nat) (hr : r < 64) : IntKind.u64.wrap ((2 : Int) ^ r) = ((2 ^ r : Nat) : Int) := by
  have h1 := pow_lt r hr
  have h2 : ((2 : Int) ^ r) = ((2 ^ r : Nat) : Int) := by simp
  rw [h2, IntKind.wrap_u64]
  generalize 2 ^ r = p at h1
  omega
theorem or_val (V r : Nat) (hV : V < 18446744073709551616) (hr : r < 64) : bits .or .u64 (V : Int) (IntKind.u64.wrap ((2 : Int) ^ r)) = ((V ||| 2 ^ r : Nat) : Int) := by
  rw [wrap_pow r hr]
  exact u64_or_nat V _ hV (pow_lt r hr)
theorem or_lt (V r : Nat) (hV : V < 18446744073709551616) (hr : r < 64) : V ||| 2 ^ r < 18446744073709551616 := by
  have : V ||| 2 ^ r < 2 ^ 64 := Nat.or_lt_two_pow hV (pow_lt r hr)
  exact this

/-- One bit set. -/
def put (W : Nat → Nat) (q r : Nat) : Nat → Nat := fun j => if j = q then W q ||| 2 ^ r else W j
theorem put_bit (W : Nat → Nat) (k b : Nat) : (put W (k / 64) (k % 64) (b / 64)).testBit (b % 64) = ((W (b / 64)).testBit (b % 64) || decide (b = k)) := by
  unfold put
  by_cases h : b / 64 = k / 64
  · rw [if_pos h, Nat.testBit_or, Nat.testBit_two_pow, h]
    congr 1
    exact decide_eq_decide.2 (by omega)
  · rw [if_neg h, decide_eq_false (by intro e; exact h (by rw [e])), Bool.or_false]
theorem MS.put {ob B s : Nat} {W : Nat → Nat} {w : World} (h : MS ob B s W w) (q r : Nat) (hq : q < 1024) (hr : r < 64) :
    MS ob B s (put W q r) (w.setCell ⟨B, q, none⟩ (.int .u64 (bits .or .u64 (W q : Int) (IntKind.u64.wrap ((2 : Int) ^ r))))).drew := by
  have hne := h.ne
  have o : ∀ b o v, ¬ (b = B ∧ o = q) → (w.setCell ⟨B, q, none⟩ v).cell? ⟨b, o, none⟩ = w.cell? ⟨b, o, none⟩ := fun b o v hn =>
    World.cell?_setCell_other _ ⟨B, q, none⟩ ⟨b, o, none⟩ _ (fun e => hn ⟨(congrArg Addr.block e).symm, (congrArg Addr.off e).symm⟩)
  rw [or_val _ _ (h.bd q) hr]
  refine ⟨(o _ _ _ (by omega)).trans h.r6, (o _ _ _ (by omega)).trans h.r7, fun j hj => ?_, fun j => ?_, fun j => ?_, hne⟩
  · by_cases e : j = q
    · subst e
      simp only [Blk.put, if_true]
      exact World.cell?_setCell_same _ _ _ (h.row j hj)
    · simp only [Blk.put, if_neg e]
      exact (o _ _ _ (by omega)).trans (h.row j hj)
  · have := h.fz j
    simp [this]
  · by_cases e : j = q
    · subst e
      simp only [Blk.put, if_true]
      exact or_lt _ _ (h.bd j) hr
    · simp only [Blk.put, if_neg e]
      exact h.bd j

set_option maxHeartbeats 1000000 in
theorem mark_set (ob B s x n base : Nat) (W : Nat → Nat) (w : World) (hn : 1 ≤ n) (hx : x + n ≤ 9223372036854775807) (hs : s ≤ 46) (h : MS ob B s W w) (hbo : base ≤ ob) (hbB : base ≤ B) :
    Calls Yba.prog 5 #[.pointer (some ⟨ob, 0, none⟩), .int .i64 (x : Int), .int .i64 (n : Int)] w fun e w' => e = .returned (.tuple #[]) ∧ Below base w w' ∧ ∃ W', MS ob B s W' w' ∧
      ∀ b, b < 65536 → (W' (b / 64)).testBit (b % 64) = ((W (b / 64)).testBit (b % 64) || decide (min (x / 2 ^ s) 65535 ≤ b ∧ b ≤ min ((x + n - 1) / 2 ^ s) 65535)) := by
  obtain ⟨g, hg⟩ : ∃ g : Nat → Nat, ∀ z, min (z / 2 ^ s) 65535 = g z := ⟨fun z => min (z / 2 ^ s) 65535, fun z => rfl⟩
  obtain ⟨y, hy⟩ : ∃ y : Nat, y = x + n - 1 := ⟨_, rfl⟩
  have cc : ∀ z : Nat, z ≤ 9223372036854775807 → Calls Yba.prog 7 #[.pointer (some ⟨ob, 0, none⟩), .int .i64 (z : Int)] w fun e w' => w = w' ∧ e = .returned (.int .i64 (g z : Int)) := fun z hz => by
    rw [← hg]; exact block_any ob z s w hz hs h.r7
  rw [← hy, hg, hg]
  obtain ⟨lo, hlo⟩ : ∃ lo, g x = lo := ⟨_, rfl⟩
  obtain ⟨hi, hhi⟩ : ∃ hi, g y = hi := ⟨_, rfl⟩
  have hlo2 : lo ≤ 65535 := by rw [← hlo, ← hg]; omega
  have hhi2 : hi ≤ 65535 := by rw [← hhi, ← hg]; omega
  rw [hlo, hhi]
  have hy2 : y ≤ 9223372036854775807 := by omega
  have hlh : lo ≤ hi := by
    have := Nat.div_le_div_right (c := 2 ^ s) (show x ≤ y by omega)
    rw [← hlo, ← hhi, ← hg, ← hg]
    omega
  have e1 : (x : Int) + (n : Int) - 1 = (y : Int) := by omega
  have r6 := h.r6
  have hnil := fun w' => Lib.run_eql_slice_nil (P := Yba.prog) w' 22 42 (some ⟨B, 0, none⟩) 1024 1024 0 0 Yba.underlying22
  simp only [Option.isNone_some] at hnil
  clear hy hg
  go_enter Yba.func5, Yba.ntmps5
  go_wp2_with (go_at_call 7; refine (cc _ (by omega)).mono ?_; rintro e w1 ⟨rfl, rfl⟩)
  go_loopw [7] (fun i wr => ∃ k : Nat, lo ≤ k ∧ i = .int .i64 (k : Int) ∧ k ≤ 65536 ∧ k ≤ hi + 1 ∧ Below base w wr ∧ ∃ W', MS ob B s W' wr ∧ ∀ b, b < 65536 → (W' (b / 64)).testBit (b % 64) = ((W (b / 64)).testBit (b % 64) || decide (lo ≤ b ∧ b < k))) (fun i _ => 65536 - (intOf i).toNat)
  case atStart => exact ⟨lo, Nat.le_refl _, rfl, by omega, by omega, Below.refl _ _, W, h, fun b _ => by simp; omega⟩
  case round =>
    obtain ⟨k, hk, rfl, hk2, hk3, bel, W', M, hbits⟩ := hrel
    by_cases hkh : k ≤ hi
    · have r6 := M.r6
      obtain ⟨q, hq⟩ : ∃ q : Nat, (k : Int) / 64 = (q : Int) := ⟨k / 64, by omega⟩
      obtain ⟨r, hr⟩ : ∃ r : Nat, (k : Int) % 64 = (r : Int) := ⟨k % 64, by omega⟩
      have hq2 : q < 1024 := by omega
      have hr2 : r < 64 := by omega
      have rk := M.row q hq2
      have vb := M.bd q
      have fk := M.fz q
      go_wp2
      go_region
      go_wp2
      go_roundw
      case rel =>
        refine ⟨k + 1, by omega, by go_num, by omega, by omega, (bel.setCell hbB _).drew, _, M.put q r hq2 hr2, fun b hb => ?_⟩
        have p1 := put_bit W' k b
        rw [show k / 64 = q by omega, show k % 64 = r by omega] at p1
        rw [p1, hbits b hb, Bool.or_assoc]
        congr 1
        rw [← Bool.decide_or]
        exact decide_eq_decide.2 (by omega)
      case measure => simp [intOf]; omega
    · go_wp2
      go_end0
      refine ⟨rfl, bel, W', M, fun b hb => ?_⟩
      rw [hbits b hb]
      congr 1
      exact decide_eq_decide.2 (by omega)
end Go.Proofs.Ybulkcymu.Blk
