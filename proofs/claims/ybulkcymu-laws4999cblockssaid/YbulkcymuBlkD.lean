import Derived.Test.YbulkcymuBlkB
namespace Go.Proofs.Ybulkcymu.Blk
open Go.RowKit
set_option linter.unusedVariables false

theorem and_pow (V r : Nat) : V &&& 2 ^ r = if V.testBit r then 2 ^ r else 0 := by
  apply Nat.eq_of_testBit_eq
  intro i
  rw [Nat.testBit_and, Nat.testBit_two_pow]
  by_cases hi : r = i
  · subst hi
    cases h : V.testBit r <;> simp
  · cases h : V.testBit r <;> simp [hi]
theorem and_bit (V r : Nat) (hV : V < 18446744073709551616) (hr : r < 64) : bits .and .u64 (V : Int) (IntKind.u64.wrap ((2 : Int) ^ r)) = if V.testBit r then ((2 ^ r : Nat) : Int) else 0 := by
  rw [wrap_pow r hr, u64_and_nat V _ hV (pow_lt r hr), and_pow]
  cases h : V.testBit r <;> simp
theorem bit_on {V r : Nat} (hV : V < 18446744073709551616) (hr : r < 64) (h : V.testBit r = true) : ∃ p : Nat, bits .and .u64 (V : Int) (IntKind.u64.wrap ((2 : Int) ^ r)) = (p : Int) ∧ ((p : Int) != 0) = true := by
  have := Nat.two_pow_pos r
  exact ⟨2 ^ r, by rw [and_bit V r hV hr, if_pos h], bne_iff_ne.2 (by omega)⟩
theorem bit_off {V r : Nat} (hV : V < 18446744073709551616) (hr : r < 64) (h : V.testBit r = false) : bits .and .u64 (V : Int) (IntKind.u64.wrap ((2 : Int) ^ r)) = 0 := by
  rw [and_bit V r hV hr, h]; rfl

theorem shl_fit (k s : Nat) (hk : k ≤ 65535) (hs : s ≤ 46) : k * 2 ^ s ≤ 4611686018427387903 := by
  have h1 : 2 ^ s ≤ 70368744177664 := by
    have := Nat.pow_le_pow_right (n := 2) (by omega) hs
    simpa using this
  have := Nat.mul_le_mul hk h1
  omega
theorem shl_wrap (k s : Nat) (hk : k ≤ 65535) (hs : s ≤ 46) : IntKind.i64.wrap ((k : Int) * 2 ^ s) = ((k * 2 ^ s : Nat) : Int) := by
  have h := shl_fit k s hk hs
  have h2 : ((k : Int) * 2 ^ s) = ((k * 2 ^ s : Nat) : Int) := by simp
  rw [h2, IntKind.wrap_i64]
  generalize k * 2 ^ s = p at h
  omega

def hit (x en s b : Nat) : Bool := decide (b * 2 ^ s < en) && (decide (65535 ≤ b) || decide (x < (b + 1) * 2 ^ s))

set_option maxRecDepth 100000 in
set_option maxHeartbeats 4000000 in
theorem want_any (a0 : Option Addr) (pb po len0 cap0 : Nat) (P : Nat → Nat) (a1 : Bool) (x en s B : Nat) (W : Nat → Nat) (w : World) (hs : s ≤ 46) (hx : x ≤ 9223372036854775807) (hen : en ≤ 9223372036854775807)
    (hl : (len0 : Int) ≤ 9223372036854775807) (ha : 0 < len0 → a0 = some ⟨pb, po, none⟩) (hp : ∀ i, i < len0 → w.cell? ⟨pb, po + i, none⟩ = some (.int .u64 (P i : Int))) (hpb : ∀ i, i < len0 → P i < 18446744073709551616)
    (hw : ∀ j, j < 1024 → w.cell? ⟨B, j, none⟩ = some (.int .u64 (W j : Int))) (hwb : ∀ j, W j < 18446744073709551616)
    (hbit : ∀ b, b < 65536 → (W (b / 64)).testBit (b % 64) = (hit x en s b || (a1 && decide (b / 64 < len0) && (P (b / 64)).testBit (b % 64)))) :
    Calls Yba.prog 6 #[.slice a0 len0 cap0, .bool a1, .int .i64 (x : Int), .int .i64 (en : Int), .int .u64 (s : Int), .slice (some ⟨B, 0, none⟩) 1024 1024] w fun e w' => w = w' ∧ e = .returned (.bool true) := by
  have HA : Hid (0 < len0 → a0 = some ⟨pb, po, none⟩) := ha
  have HP : Hid (∀ i, i < len0 → w.cell? ⟨pb, po + i, none⟩ = some (.int .u64 (P i : Int))) := hp
  have HPB : Hid (∀ i, i < len0 → P i < 18446744073709551616) := hpb
  have HW : Hid (∀ j, j < 1024 → w.cell? ⟨B, j, none⟩ = some (.int .u64 (W j : Int))) := hw
  have HWB : Hid (∀ j, W j < 18446744073709551616) := hwb
  have HBIT : Hid (∀ b, b < 65536 → (W (b / 64)).testBit (b % 64) = (hit x en s b || (a1 && decide (b / 64 < len0) && (P (b / 64)).testBit (b % 64)))) := hbit
  clear ha hp hpb hw hwb hbit
  go_enter Yba.func6, Yba.ntmps6
  go_wp2
  go_loop [13, 14, 15, 16, 17, 18] (fun i _ _ _ _ _ => ∃ k : Nat, k ≤ 65536 ∧ i = .int .i64 (k : Int)) (fun i _ _ _ _ _ => 65536 - (intOf i).toNat)
  case atStart => exact ⟨0, Nat.zero_le _, rfl⟩
  case round =>
    obtain ⟨k, hk, rfl⟩ := hrel
    by_cases hk2 : k < 65536
    · obtain ⟨q, hq⟩ : ∃ q : Nat, (k : Int) / 64 = (q : Int) := ⟨k / 64, by omega⟩
      obtain ⟨r, hr⟩ : ∃ r : Nat, (k : Int) % 64 = (r : Int) := ⟨k % 64, by omega⟩
      have hq2 : q < 1024 := by omega
      have hr2 : r < 64 := by omega
      have hb := HBIT.out k hk2
      rw [show k / 64 = q by omega, show k % 64 = r by omega] at hb
      have hwq := HW.out q hq2
      have hwb := HWB.out q
      have hA := shl_wrap k s (by omega) hs
      have hA2 := shl_fit k s (by omega) hs
      have hk3 : (k : Int) < 65536 := by omega
      unfold hit at hb
      obtain ⟨A, hAA⟩ : ∃ A, k * 2 ^ s = A := ⟨_, rfl⟩
      rw [hAA] at hA hA2 hb
      obtain ⟨A2, hA22⟩ : ∃ A2, (k + 1) * 2 ^ s = A2 := ⟨_, rfl⟩
      rw [hA22] at hb
      clear hAA
      have hk0 : (k : Int) + 1 = ((k + 1 : Nat) : Int) := by omega
      by_cases hc1 : A < en
      · by_cases hc2 : k < 65535
        · by_cases hc3 : x < A2
          · cases a1
            · have e1 : (A : Int) < (en : Int) := by omega
              have e2 : (k : Int) < 65535 := by omega
              have hB := shl_wrap (k + 1) s (by omega) hs
              have hB2 := shl_fit (k + 1) s (by omega) hs
              rw [hA22] at hB hB2
              rw [← hk0] at hB
              have e3 : (x : Int) < (A2 : Int) := by omega
              have hwbit : (W q).testBit r = true := by
                rw [hb, decide_eq_true (p := A < en) (by omega), decide_eq_false (p := 65535 ≤ k) (by omega), decide_eq_true (p := x < A2) (by omega)]
                simp
              obtain ⟨pw, hpw, hpn⟩ := bit_on hwb hr2 hwbit
              clear hb hwbit hk0 hA22 hk hk2 hc2
              go_wp2
              go_round
              case rel => exact ⟨k + 1, by omega, by go_num⟩
              case measure => simp [intOf]; omega
            · by_cases hd2 : q < len0
              · cases hd3 : (P q).testBit r
                · have e1 : (A : Int) < (en : Int) := by omega
                  have e2 : (k : Int) < 65535 := by omega
                  have hB := shl_wrap (k + 1) s (by omega) hs
                  have hB2 := shl_fit (k + 1) s (by omega) hs
                  rw [hA22] at hB hB2
                  rw [← hk0] at hB
                  have e3 : (x : Int) < (A2 : Int) := by omega
                  have hwbit : (W q).testBit r = true := by
                    rw [hb, decide_eq_true (p := A < en) (by omega), decide_eq_false (p := 65535 ≤ k) (by omega), decide_eq_true (p := x < A2) (by omega), decide_eq_true (p := q < len0) (by omega), hd3]
                    rfl
                  obtain ⟨pw, hpw, hpn⟩ := bit_on hwb hr2 hwbit
                  have e4 : (q : Int) < (len0 : Int) := by omega
                  obtain rfl := HA.out (by omega)
                  have hpq := HP.out q hd2
                  have hpqb := HPB.out q hd2
                  have hpp := bit_off hpqb hr2 hd3
                  clear hb hwbit hk0 hA22 hk hk2 hc2 hd3
                  go_wp2
                  go_round
                  case rel => exact ⟨k + 1, by omega, by go_num⟩
                  case measure => simp [intOf]; omega
                · have e1 : (A : Int) < (en : Int) := by omega
                  have e2 : (k : Int) < 65535 := by omega
                  have hB := shl_wrap (k + 1) s (by omega) hs
                  have hB2 := shl_fit (k + 1) s (by omega) hs
                  rw [hA22] at hB hB2
                  rw [← hk0] at hB
                  have e3 : (x : Int) < (A2 : Int) := by omega
                  have hwbit : (W q).testBit r = true := by
                    rw [hb, decide_eq_true (p := A < en) (by omega), decide_eq_false (p := 65535 ≤ k) (by omega), decide_eq_true (p := x < A2) (by omega), decide_eq_true (p := q < len0) (by omega), hd3]
                    rfl
                  obtain ⟨pw, hpw, hpn⟩ := bit_on hwb hr2 hwbit
                  have e4 : (q : Int) < (len0 : Int) := by omega
                  obtain rfl := HA.out (by omega)
                  have hpq := HP.out q hd2
                  have hpqb := HPB.out q hd2
                  obtain ⟨pp, hpp, hppn⟩ := bit_on hpqb hr2 hd3
                  clear hb hwbit hk0 hA22 hk hk2 hc2 hd3
                  go_wp2
                  go_round
                  case rel => exact ⟨k + 1, by omega, by go_num⟩
                  case measure => simp [intOf]; omega
              · have e1 : (A : Int) < (en : Int) := by omega
                have e2 : (k : Int) < 65535 := by omega
                have hB := shl_wrap (k + 1) s (by omega) hs
                have hB2 := shl_fit (k + 1) s (by omega) hs
                rw [hA22] at hB hB2
                rw [← hk0] at hB
                have e3 : (x : Int) < (A2 : Int) := by omega
                have hwbit : (W q).testBit r = true := by
                  rw [hb, decide_eq_true (p := A < en) (by omega), decide_eq_false (p := 65535 ≤ k) (by omega), decide_eq_true (p := x < A2) (by omega), decide_eq_false (p := q < len0) (by omega)]
                  rfl
                obtain ⟨pw, hpw, hpn⟩ := bit_on hwb hr2 hwbit
                have e4 : ¬ (q : Int) < (len0 : Int) := by omega
                clear hb hwbit hk0 hA22 hk hk2 hc2
                go_wp2
                go_round
                case rel => exact ⟨k + 1, by omega, by go_num⟩
                case measure => simp [intOf]; omega
          · cases a1
            · have e1 : (A : Int) < (en : Int) := by omega
              have e2 : (k : Int) < 65535 := by omega
              have hB := shl_wrap (k + 1) s (by omega) hs
              have hB2 := shl_fit (k + 1) s (by omega) hs
              rw [hA22] at hB hB2
              rw [← hk0] at hB
              have e3 : ¬ (x : Int) < (A2 : Int) := by omega
              have hwbit : (W q).testBit r = false := by
                rw [hb, decide_eq_true (p := A < en) (by omega), decide_eq_false (p := 65535 ≤ k) (by omega), decide_eq_false (p := x < A2) (by omega)]
                simp
              have hpw := bit_off hwb hr2 hwbit
              clear hb hwbit hk0 hA22 hk hk2 hc2
              go_wp2
              go_round
              case rel => exact ⟨k + 1, by omega, by go_num⟩
              case measure => simp [intOf]; omega
            · by_cases hd2 : q < len0
              · cases hd3 : (P q).testBit r
                · have e1 : (A : Int) < (en : Int) := by omega
                  have e2 : (k : Int) < 65535 := by omega
                  have hB := shl_wrap (k + 1) s (by omega) hs
                  have hB2 := shl_fit (k + 1) s (by omega) hs
                  rw [hA22] at hB hB2
                  rw [← hk0] at hB
                  have e3 : ¬ (x : Int) < (A2 : Int) := by omega
                  have hwbit : (W q).testBit r = false := by
                    rw [hb, decide_eq_true (p := A < en) (by omega), decide_eq_false (p := 65535 ≤ k) (by omega), decide_eq_false (p := x < A2) (by omega), decide_eq_true (p := q < len0) (by omega), hd3]
                    rfl
                  have hpw := bit_off hwb hr2 hwbit
                  have e4 : (q : Int) < (len0 : Int) := by omega
                  obtain rfl := HA.out (by omega)
                  have hpq := HP.out q hd2
                  have hpqb := HPB.out q hd2
                  have hpp := bit_off hpqb hr2 hd3
                  clear hb hwbit hk0 hA22 hk hk2 hc2 hd3
                  go_wp2
                  go_round
                  case rel => exact ⟨k + 1, by omega, by go_num⟩
                  case measure => simp [intOf]; omega
                · have e1 : (A : Int) < (en : Int) := by omega
                  have e2 : (k : Int) < 65535 := by omega
                  have hB := shl_wrap (k + 1) s (by omega) hs
                  have hB2 := shl_fit (k + 1) s (by omega) hs
                  rw [hA22] at hB hB2
                  rw [← hk0] at hB
                  have e3 : ¬ (x : Int) < (A2 : Int) := by omega
                  have hwbit : (W q).testBit r = true := by
                    rw [hb, decide_eq_true (p := A < en) (by omega), decide_eq_false (p := 65535 ≤ k) (by omega), decide_eq_false (p := x < A2) (by omega), decide_eq_true (p := q < len0) (by omega), hd3]
                    rfl
                  obtain ⟨pw, hpw, hpn⟩ := bit_on hwb hr2 hwbit
                  have e4 : (q : Int) < (len0 : Int) := by omega
                  obtain rfl := HA.out (by omega)
                  have hpq := HP.out q hd2
                  have hpqb := HPB.out q hd2
                  obtain ⟨pp, hpp, hppn⟩ := bit_on hpqb hr2 hd3
                  clear hb hwbit hk0 hA22 hk hk2 hc2 hd3
                  go_wp2
                  go_round
                  case rel => exact ⟨k + 1, by omega, by go_num⟩
                  case measure => simp [intOf]; omega
              · have e1 : (A : Int) < (en : Int) := by omega
                have e2 : (k : Int) < 65535 := by omega
                have hB := shl_wrap (k + 1) s (by omega) hs
                have hB2 := shl_fit (k + 1) s (by omega) hs
                rw [hA22] at hB hB2
                rw [← hk0] at hB
                have e3 : ¬ (x : Int) < (A2 : Int) := by omega
                have hwbit : (W q).testBit r = false := by
                  rw [hb, decide_eq_true (p := A < en) (by omega), decide_eq_false (p := 65535 ≤ k) (by omega), decide_eq_false (p := x < A2) (by omega), decide_eq_false (p := q < len0) (by omega)]
                  rfl
                have hpw := bit_off hwb hr2 hwbit
                have e4 : ¬ (q : Int) < (len0 : Int) := by omega
                clear hb hwbit hk0 hA22 hk hk2 hc2
                go_wp2
                go_round
                case rel => exact ⟨k + 1, by omega, by go_num⟩
                case measure => simp [intOf]; omega
        · cases a1
          · have e1 : (A : Int) < (en : Int) := by omega
            have e2 : ¬ (k : Int) < 65535 := by omega
            have hwbit : (W q).testBit r = true := by
              rw [hb, decide_eq_true (p := A < en) (by omega), decide_eq_true (p := 65535 ≤ k) (by omega)]
              simp
            obtain ⟨pw, hpw, hpn⟩ := bit_on hwb hr2 hwbit
            clear hb hwbit hk0 hA22 hk hk2 hc2
            go_wp2
            go_round
            case rel => exact ⟨k + 1, by omega, by go_num⟩
            case measure => simp [intOf]; omega
          · by_cases hd2 : q < len0
            · cases hd3 : (P q).testBit r
              · have e1 : (A : Int) < (en : Int) := by omega
                have e2 : ¬ (k : Int) < 65535 := by omega
                have hwbit : (W q).testBit r = true := by
                  rw [hb, decide_eq_true (p := A < en) (by omega), decide_eq_true (p := 65535 ≤ k) (by omega), decide_eq_true (p := q < len0) (by omega), hd3]
                  simp
                obtain ⟨pw, hpw, hpn⟩ := bit_on hwb hr2 hwbit
                have e4 : (q : Int) < (len0 : Int) := by omega
                obtain rfl := HA.out (by omega)
                have hpq := HP.out q hd2
                have hpqb := HPB.out q hd2
                have hpp := bit_off hpqb hr2 hd3
                clear hb hwbit hk0 hA22 hk hk2 hc2 hd3
                go_wp2
                go_round
                case rel => exact ⟨k + 1, by omega, by go_num⟩
                case measure => simp [intOf]; omega
              · have e1 : (A : Int) < (en : Int) := by omega
                have e2 : ¬ (k : Int) < 65535 := by omega
                have hwbit : (W q).testBit r = true := by
                  rw [hb, decide_eq_true (p := A < en) (by omega), decide_eq_true (p := 65535 ≤ k) (by omega), decide_eq_true (p := q < len0) (by omega), hd3]
                  simp
                obtain ⟨pw, hpw, hpn⟩ := bit_on hwb hr2 hwbit
                have e4 : (q : Int) < (len0 : Int) := by omega
                obtain rfl := HA.out (by omega)
                have hpq := HP.out q hd2
                have hpqb := HPB.out q hd2
                obtain ⟨pp, hpp, hppn⟩ := bit_on hpqb hr2 hd3
                clear hb hwbit hk0 hA22 hk hk2 hc2 hd3
                go_wp2
                go_round
                case rel => exact ⟨k + 1, by omega, by go_num⟩
                case measure => simp [intOf]; omega
            · have e1 : (A : Int) < (en : Int) := by omega
              have e2 : ¬ (k : Int) < 65535 := by omega
              have hwbit : (W q).testBit r = true := by
                rw [hb, decide_eq_true (p := A < en) (by omega), decide_eq_true (p := 65535 ≤ k) (by omega), decide_eq_false (p := q < len0) (by omega)]
                simp
              obtain ⟨pw, hpw, hpn⟩ := bit_on hwb hr2 hwbit
              have e4 : ¬ (q : Int) < (len0 : Int) := by omega
              clear hb hwbit hk0 hA22 hk hk2 hc2
              go_wp2
              go_round
              case rel => exact ⟨k + 1, by omega, by go_num⟩
              case measure => simp [intOf]; omega
      · by_cases hc2 : k < 65535
        · cases a1
          · have e1 : ¬ (A : Int) < (en : Int) := by omega
            have e2 : (k : Int) < 65535 := by omega
            have hB := shl_wrap (k + 1) s (by omega) hs
            have hB2 := shl_fit (k + 1) s (by omega) hs
            rw [hA22] at hB hB2
            rw [← hk0] at hB
            have hwbit : (W q).testBit r = false := by
              rw [hb, decide_eq_false (p := A < en) (by omega), decide_eq_false (p := 65535 ≤ k) (by omega)]
              simp
            have hpw := bit_off hwb hr2 hwbit
            clear hb hwbit hk0 hA22 hk hk2 hc2
            go_wp2
            go_round
            case rel => exact ⟨k + 1, by omega, by go_num⟩
            case measure => simp [intOf]; omega
          · by_cases hd2 : q < len0
            · cases hd3 : (P q).testBit r
              · have e1 : ¬ (A : Int) < (en : Int) := by omega
                have e2 : (k : Int) < 65535 := by omega
                have hB := shl_wrap (k + 1) s (by omega) hs
                have hB2 := shl_fit (k + 1) s (by omega) hs
                rw [hA22] at hB hB2
                rw [← hk0] at hB
                have hwbit : (W q).testBit r = false := by
                  rw [hb, decide_eq_false (p := A < en) (by omega), decide_eq_false (p := 65535 ≤ k) (by omega), decide_eq_true (p := q < len0) (by omega), hd3]
                  simp
                have hpw := bit_off hwb hr2 hwbit
                have e4 : (q : Int) < (len0 : Int) := by omega
                obtain rfl := HA.out (by omega)
                have hpq := HP.out q hd2
                have hpqb := HPB.out q hd2
                have hpp := bit_off hpqb hr2 hd3
                clear hb hwbit hk0 hA22 hk hk2 hc2 hd3
                go_wp2
                go_round
                case rel => exact ⟨k + 1, by omega, by go_num⟩
                case measure => simp [intOf]; omega
              · have e1 : ¬ (A : Int) < (en : Int) := by omega
                have e2 : (k : Int) < 65535 := by omega
                have hB := shl_wrap (k + 1) s (by omega) hs
                have hB2 := shl_fit (k + 1) s (by omega) hs
                rw [hA22] at hB hB2
                rw [← hk0] at hB
                have hwbit : (W q).testBit r = true := by
                  rw [hb, decide_eq_false (p := A < en) (by omega), decide_eq_false (p := 65535 ≤ k) (by omega), decide_eq_true (p := q < len0) (by omega), hd3]
                  simp
                obtain ⟨pw, hpw, hpn⟩ := bit_on hwb hr2 hwbit
                have e4 : (q : Int) < (len0 : Int) := by omega
                obtain rfl := HA.out (by omega)
                have hpq := HP.out q hd2
                have hpqb := HPB.out q hd2
                obtain ⟨pp, hpp, hppn⟩ := bit_on hpqb hr2 hd3
                clear hb hwbit hk0 hA22 hk hk2 hc2 hd3
                go_wp2
                go_round
                case rel => exact ⟨k + 1, by omega, by go_num⟩
                case measure => simp [intOf]; omega
            · have e1 : ¬ (A : Int) < (en : Int) := by omega
              have e2 : (k : Int) < 65535 := by omega
              have hB := shl_wrap (k + 1) s (by omega) hs
              have hB2 := shl_fit (k + 1) s (by omega) hs
              rw [hA22] at hB hB2
              rw [← hk0] at hB
              have hwbit : (W q).testBit r = false := by
                rw [hb, decide_eq_false (p := A < en) (by omega), decide_eq_false (p := 65535 ≤ k) (by omega), decide_eq_false (p := q < len0) (by omega)]
                simp
              have hpw := bit_off hwb hr2 hwbit
              have e4 : ¬ (q : Int) < (len0 : Int) := by omega
              clear hb hwbit hk0 hA22 hk hk2 hc2
              go_wp2
              go_round
              case rel => exact ⟨k + 1, by omega, by go_num⟩
              case measure => simp [intOf]; omega
        · cases a1
          · have e1 : ¬ (A : Int) < (en : Int) := by omega
            have e2 : ¬ (k : Int) < 65535 := by omega
            have hwbit : (W q).testBit r = false := by
              rw [hb, decide_eq_false (p := A < en) (by omega), decide_eq_true (p := 65535 ≤ k) (by omega)]
              simp
            have hpw := bit_off hwb hr2 hwbit
            clear hb hwbit hk0 hA22 hk hk2 hc2
            go_wp2
            go_round
            case rel => exact ⟨k + 1, by omega, by go_num⟩
            case measure => simp [intOf]; omega
          · by_cases hd2 : q < len0
            · cases hd3 : (P q).testBit r
              · have e1 : ¬ (A : Int) < (en : Int) := by omega
                have e2 : ¬ (k : Int) < 65535 := by omega
                have hwbit : (W q).testBit r = false := by
                  rw [hb, decide_eq_false (p := A < en) (by omega), decide_eq_true (p := 65535 ≤ k) (by omega), decide_eq_true (p := q < len0) (by omega), hd3]
                  simp
                have hpw := bit_off hwb hr2 hwbit
                have e4 : (q : Int) < (len0 : Int) := by omega
                obtain rfl := HA.out (by omega)
                have hpq := HP.out q hd2
                have hpqb := HPB.out q hd2
                have hpp := bit_off hpqb hr2 hd3
                clear hb hwbit hk0 hA22 hk hk2 hc2 hd3
                go_wp2
                go_round
                case rel => exact ⟨k + 1, by omega, by go_num⟩
                case measure => simp [intOf]; omega
              · have e1 : ¬ (A : Int) < (en : Int) := by omega
                have e2 : ¬ (k : Int) < 65535 := by omega
                have hwbit : (W q).testBit r = true := by
                  rw [hb, decide_eq_false (p := A < en) (by omega), decide_eq_true (p := 65535 ≤ k) (by omega), decide_eq_true (p := q < len0) (by omega), hd3]
                  simp
                obtain ⟨pw, hpw, hpn⟩ := bit_on hwb hr2 hwbit
                have e4 : (q : Int) < (len0 : Int) := by omega
                obtain rfl := HA.out (by omega)
                have hpq := HP.out q hd2
                have hpqb := HPB.out q hd2
                obtain ⟨pp, hpp, hppn⟩ := bit_on hpqb hr2 hd3
                clear hb hwbit hk0 hA22 hk hk2 hc2 hd3
                go_wp2
                go_round
                case rel => exact ⟨k + 1, by omega, by go_num⟩
                case measure => simp [intOf]; omega
            · have e1 : ¬ (A : Int) < (en : Int) := by omega
              have e2 : ¬ (k : Int) < 65535 := by omega
              have hwbit : (W q).testBit r = false := by
                rw [hb, decide_eq_false (p := A < en) (by omega), decide_eq_true (p := 65535 ≤ k) (by omega), decide_eq_false (p := q < len0) (by omega)]
                simp
              have hpw := bit_off hwb hr2 hwbit
              have e4 : ¬ (q : Int) < (len0 : Int) := by omega
              clear hb hwbit hk0 hA22 hk hk2 hc2
              go_wp2
              go_round
              case rel => exact ⟨k + 1, by omega, by go_num⟩
              case measure => simp [intOf]; omega
    · have hk3 : ¬ (k : Int) < 65536 := by omega
      clear hk hk2
      go_wp2
      go_ret
      exact ⟨rfl, rfl⟩
end Go.Proofs.Ybulkcymu.Blk
