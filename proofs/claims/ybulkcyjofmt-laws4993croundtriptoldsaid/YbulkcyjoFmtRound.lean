import Derived.Test.YbulkcyjoFmtYuan
import Derived.Deep.QuietTactic
import Derived.BigQuiet
namespace Go.Proofs.YbulkcyjoFmt
open Go.RowKit Go.Extern.Stop Go.Stop Go.Extern Go.Kit
set_option linter.unusedVariables false

/-- What is known of the text's bytes: its sign's length o, n digits of q, a point, the two digits of r. -/
structure Txt (s : ByteArray) (o n q r : Nat) : Prop where
  size : s.size = o + n + 3
  n1 : 1 ≤ n
  n2 : n ≤ 21
  dig : ∀ j, o ≤ j → j < o + n → ∀ h, ((s[j]'h).toNat : Int) = 48 + ((q / 10 ^ (o + n - 1 - j) % 10 : Nat) : Int)
  dot : ∀ h, ((s[o + n]'h).toNat : Int) = 46
  d1 : ∀ h, ((s[o + n + 1]'h).toNat : Int) = 48 + ((r / 10 : Nat) : Int)
  d2 : ∀ h, ((s[o + n + 2]'h).toNat : Int) = 48 + ((r % 10 : Nat) : Int)
  lo : 1 < n → 10 ^ (n - 1) ≤ q
  hi : q < 10 ^ n
  qb : q * 100 + 99 < 18446744073709551616
  rb : r < 100

theorem v_step (q e : Nat) : q / 10 ^ e = q / 10 ^ (e + 1) * 10 + q / 10 ^ e % 10 := by
  rw [Nat.pow_succ, ← Nat.div_div_eq_div_mul]; omega

theorem dig_step {o n q j x : Nat} {s : ByteArray} (hs : s.size = o + n + 3) (h1 : o ≤ j) (h2 : j < o + n) (hx : x = q / 10 ^ (o + n - j)) :
    ∃ x' d : Nat, (d : Int) = ((q / 10 ^ (o + n - 1 - j) % 10 : Nat) : Int) ∧ x' = x * 10 + d ∧ Hid (x' = q / 10 ^ (o + n - (j + 1))) ∧ x * 10 + d ≤ q ∧ d < 10 := by
  refine ⟨q / 10 ^ (o + n - 1 - j), q / 10 ^ (o + n - 1 - j) % 10, rfl, ?_, ?_, ?_, Nat.mod_lt _ (by decide)⟩
  · rw [hx, show o + n - j = (o + n - 1 - j) + 1 by omega]; exact v_step q _
  · show _ = _
    rw [show o + n - (j + 1) = o + n - 1 - j by omega]
  · have := v_step q (o + n - 1 - j)
    rw [hx, show o + n - j = (o + n - 1 - j) + 1 by omega, ← this]
    exact Nat.div_le_self _ _

theorem first_digit {s : ByteArray} {o n q r : Nat} (T : Txt s o n q r) (hn : 1 < n) : 1 ≤ q / 10 ^ (o + n - 1 - o) % 10 ∧ q / 10 ^ (o + n - 1 - o) % 10 < 10 := by
  have h1 := T.lo hn
  have h2 := T.hi
  rw [show o + n - 1 - o = n - 1 by omega]
  have h3 : q / 10 ^ (n - 1) < 10 := by
    rw [Nat.div_lt_iff_lt_mul (Nat.pow_pos (by decide))]
    rw [← Nat.pow_succ', show (n - 1).succ = n by omega]; exact h2
  have h4 : 1 ≤ q / 10 ^ (n - 1) := by
    rw [Nat.le_div_iff_mul_le (Nat.pow_pos (by decide))]; omega
  omega

theorem ret_bool {b : Bool} (h : b = true) : Ending.returned (.bool b) = .returned (.bool true) := by rw [h]
theorem fin_sum {x r m : Nat} (hm : m = x * 100 + r) : (x : Int) * 100 + (48 + ((r / 10 : Nat) : Int) - 48) * 10 + (48 + ((r % 10 : Nat) : Int) - 48) = (m : Int) := by omega
theorem fin_neg {m : Nat} (h1 : 1 ≤ m) (h2 : m ≤ 9223372036854775808) : (wrap64 (IntKind.u64.wrap (-(m : Int))) == -(m : Int)) = true := by
  have e2 : IntKind.u64.wrap (-(m : Int)) = 18446744073709551616 - (m : Int) := by
    simp [IntKind.wrap, IntKind.bits, IntKind.signed]; omega
  rw [e2]
  simp [wrap64]
  omega

theorem fin_pos {m : Nat} (h2 : m ≤ 9223372036854775807) : (wrap64 (m : Int) == (m : Int)) = true := by
  simp [wrap64]; omega

set_option maxHeartbeats 1000000 in
theorem rt_neg (s : ByteArray) (n q r m : Nat) (w : World) (T : Txt s 1 n q r) (hm : m = q * 100 + r) (hs : ∀ h, ((s[0]'h).toNat : Int) = 45) (h1 : 1 ≤ m) (h2 : m ≤ 9223372036854775808)
    (hY : Calls Ybaf.prog 6 #[.int .i64 (-(m : Int))] w fun e w' => e = .returned (.string s) ∧ Below w.heap.size w w') :
    Calls Ybaf.prog 4 #[.int .i64 (-(m : Int))] w fun e w' => e = .returned (.bool true) ∧ Below w.heap.size w w' := by
  have hsz := T.size
  have hn1 := T.n1
  have hn2 := T.n2
  have hqb := T.qb
  have hrb := T.rb
  have hL : (s.size : Int) = (n : Int) + 4 := by omega
  have HM : Hid (m = q * 100 + r) := hm
  have hd40 : decide (40 < (n : Int) + 4) = false := decide_eq_false (by omega)
  clear hm hsz
  go_enter Ybaf.func4, Ybaf.ntmps4
  go_wp2_with (go_at_call 6; refine hY.mono ?_; rintro e w1 ⟨rfl, hb⟩)
  go_loop [4, 7, 8] (fun i v nd => ∃ j x : Nat, 1 ≤ j ∧ j ≤ 1 + n ∧ i = .int .i64 (j : Int) ∧ nd = .int .i64 ((j : Int) - 1) ∧ v = .int .u64 (x : Int) ∧ Hid (x = q / 10 ^ (1 + n - j))) (fun i _ _ => 1 + n - (intOf i).toNat)
  case atStart => exact ⟨1, 0, by omega, by omega, rfl, rfl, rfl, (Nat.div_eq_of_lt (by have := T.hi; simpa using this)).symm⟩
  case round =>
    obtain ⟨j, x, hj1, hj2, rfl, rfl, rfl, HX⟩ := hrel
    by_cases hj : j < 1 + n
    · obtain ⟨x', d, hd, hxd, hx', hxq, hd10⟩ := dig_step T.size hj1 hj HX.out
      have hc := fun h => (T.dig j hj1 hj h).trans (by rw [← hd])
      have HXD : Hid (x' = x * 10 + d) := hxd
      clear hd hxd
      go_wp2
      go_round
      case rel => exact ⟨j + 1, x', by omega, by omega, by go_num, by go_num, by rw [HXD.out]; go_num, hx'⟩
      case measure => simp [intOf]; omega
    · have hje : j = 1 + n := by omega
      have hxq : x = q := by have := HX.out; rw [hje] at this; simpa using this
      subst hxq
      have hdot := T.dot
      have hd1 := T.d1
      have hd2 := T.d2
      rw [← hje] at hdot hd1 hd2
      have hsum := fin_sum HM.out
      obtain ⟨r1, hr1⟩ : ∃ r1, r1 = r / 10 := ⟨_, rfl⟩
      obtain ⟨r2, hr2⟩ : ∃ r2, r2 = r % 10 := ⟨_, rfl⟩
      rw [← hr1, ← hr2] at hsum
      rw [← hr1] at hd1
      rw [← hr2] at hd2
      have b1 : r1 < 10 := by omega
      have b2 : r2 < 10 := by omega
      have k1 : (j : Int) ≤ (n : Int) + 1 := by omega
      have k2 : (n : Int) + 1 ≤ (j : Int) := by omega
      have t1 : ((j : Int) - 1 == 0) = false := by simp; omega
      have i1 : (j : Int) + 1 < (n : Int) + 4 := by omega
      have i2 : (j : Int) + 1 + 1 < (n : Int) + 4 := by omega
      have HS : Hid ((x : Int) * 100 + (48 + (r1 : Int) - 48) * 10 + (48 + (r2 : Int) - 48) = (m : Int)) := hsum
      have HF : Hid (1 < n → 1 ≤ x / 10 ^ (1 + n - 1 - 1) % 10 ∧ x / 10 ^ (1 + n - 1 - 1) % 10 < 10) := first_digit T
      have hdf := T.dig 1 (by omega) (by omega)
      clear HX hje hr1 hr2 hj hsum
      by_cases hn : n = 1
      · have t2 : ¬ 1 < (j : Int) - 1 := by omega
        clear hn HF hdf
        go_wp2
        go_quiet (fail)
        go_wp2
        go_ret
        exact ⟨ret_bool (by rw [HS.out]; exact fin_neg h1 h2), hb.trans ⟨rfl, rfl, rfl, Nat.le_refl _, fun _ _ => rfl⟩⟩
      · have hf0 := HF.out (by omega)
        obtain ⟨c, hc⟩ : ∃ c : Nat, c = x / 10 ^ (1 + n - 1 - 1) % 10 := ⟨_, rfl⟩
        rw [← hc] at hf0 hdf
        have t2 : ((48 : Int) + (c : Int) == 48) = false := by simp; omega
        have hn' : 1 < n := by omega
        clear hc HF hn
        go_wp2
        go_quiet (fail)
        go_wp2
        go_ret
        exact ⟨ret_bool (by rw [HS.out]; exact fin_neg h1 h2), hb.trans ⟨rfl, rfl, rfl, Nat.le_refl _, fun _ _ => rfl⟩⟩

set_option maxHeartbeats 1000000 in
theorem rt_pos (s : ByteArray) (n q r m : Nat) (w : World) (T : Txt s 0 n q r) (hm : m = q * 100 + r) (h2 : m ≤ 9223372036854775807)
    (hY : Calls Ybaf.prog 6 #[.int .i64 (m : Int)] w fun e w' => e = .returned (.string s) ∧ Below w.heap.size w w') :
    Calls Ybaf.prog 4 #[.int .i64 (m : Int)] w fun e w' => e = .returned (.bool true) ∧ Below w.heap.size w w' := by
  have hsz := T.size
  have hn1 := T.n1
  have hn2 := T.n2
  have hqb := T.qb
  have hrb := T.rb
  have hL : (s.size : Int) = (n : Int) + 3 := by omega
  have HM : Hid (m = q * 100 + r) := hm
  have hd40 : decide (40 < (n : Int) + 3) = false := decide_eq_false (by omega)
  have hs0 := T.dig 0 (by omega) (by omega)
  obtain ⟨c0, hc0⟩ : ∃ c0 : Nat, c0 = q / 10 ^ (0 + n - 1 - 0) % 10 := ⟨_, rfl⟩
  have hc1 : c0 < 10 := by rw [hc0]; exact Nat.mod_lt _ (by decide)
  rw [← hc0] at hs0
  have hs1 : ((48 : Int) + (c0 : Int) == 45) = false := by simp; omega
  have HC0 : Hid (c0 = q / 10 ^ (0 + n - 1 - 0) % 10) := hc0
  clear hc0
  have hm0 : decide ((m : Int) < 0) = false := decide_eq_false (by omega)
  clear hm hsz
  go_enter Ybaf.func4, Ybaf.ntmps4
  go_wp2_with (go_at_call 6; refine hY.mono ?_; rintro e w1 ⟨rfl, hb⟩)
  go_loop [4, 7, 8] (fun i v nd => ∃ j x : Nat, 0 ≤ j ∧ j ≤ 0 + n ∧ i = .int .i64 (j : Int) ∧ nd = .int .i64 ((j : Int) - 0) ∧ v = .int .u64 (x : Int) ∧ Hid (x = q / 10 ^ (0 + n - j))) (fun i _ _ => 0 + n - (intOf i).toNat)
  case atStart => exact ⟨0, 0, by omega, by omega, rfl, rfl, rfl, (Nat.div_eq_of_lt (by have := T.hi; simpa using this)).symm⟩
  case round =>
    obtain ⟨j, x, hj1, hj2, rfl, rfl, rfl, HX⟩ := hrel
    by_cases hj : j < 0 + n
    · obtain ⟨x', d, hd, hxd, hx', hxq, hd10⟩ := dig_step T.size hj1 hj HX.out
      have hc := fun h => (T.dig j hj1 hj h).trans (by rw [← hd])
      have HXD : Hid (x' = x * 10 + d) := hxd
      clear hd hxd
      go_wp2
      go_round
      case rel => exact ⟨j + 1, x', by omega, by omega, by go_num, by go_num, by rw [HXD.out]; go_num, hx'⟩
      case measure => simp [intOf]; omega
    · have hje : j = 0 + n := by omega
      have hxq : x = q := by have := HX.out; rw [hje] at this; simpa using this
      subst hxq
      have hdot := T.dot
      have hd1 := T.d1
      have hd2 := T.d2
      rw [← hje] at hdot hd1 hd2
      have hsum := fin_sum HM.out
      obtain ⟨r1, hr1⟩ : ∃ r1, r1 = r / 10 := ⟨_, rfl⟩
      obtain ⟨r2, hr2⟩ : ∃ r2, r2 = r % 10 := ⟨_, rfl⟩
      rw [← hr1, ← hr2] at hsum
      rw [← hr1] at hd1
      rw [← hr2] at hd2
      have b1 : r1 < 10 := by omega
      have b2 : r2 < 10 := by omega
      have k1 : (j : Int) ≤ (n : Int) + 0 := by omega
      have k2 : (n : Int) + 0 ≤ (j : Int) := by omega
      have t1 : ((j : Int) == 0) = false := by simp; omega
      have i1 : (j : Int) + 1 < (n : Int) + 3 := by omega
      have i2 : (j : Int) + 1 + 1 < (n : Int) + 3 := by omega
      have HS : Hid ((x : Int) * 100 + (48 + (r1 : Int) - 48) * 10 + (48 + (r2 : Int) - 48) = (m : Int)) := hsum
      have HF : Hid (1 < n → 1 ≤ x / 10 ^ (0 + n - 1 - 0) % 10 ∧ x / 10 ^ (0 + n - 1 - 0) % 10 < 10) := first_digit T
      clear HX hje hr1 hr2 hj hsum
      by_cases hn : n = 1
      · have t2 : ¬ 1 < (j : Int) := by omega
        clear hn HF
        go_wp2
        go_quiet (fail)
        go_wp2
        go_ret
        exact ⟨ret_bool (by rw [HS.out]; exact fin_pos h2), hb.trans ⟨rfl, rfl, rfl, Nat.le_refl _, fun _ _ => rfl⟩⟩
      · have hf0 := HF.out (by omega)
        rw [← HC0.out] at hf0
        have t2 : ((48 : Int) + (c0 : Int) == 48) = false := by simp; omega
        have hn' : 1 < n := by omega
        clear HF hn
        go_wp2
        go_quiet (fail)
        go_wp2
        go_ret
        exact ⟨ret_bool (by rw [HS.out]; exact fin_pos h2), hb.trans ⟨rfl, rfl, rfl, Nat.le_refl _, fun _ _ => rfl⟩⟩

end Go.Proofs.YbulkcyjoFmt
