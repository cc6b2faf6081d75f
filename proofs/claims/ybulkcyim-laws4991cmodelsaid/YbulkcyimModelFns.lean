import Derived.Test.YbulkcyimHex
namespace Go.Proofs.Ybulkcyim.Model
open Go.RowKit Go.Proofs.Ybulkcyim.Hex
set_option linter.unusedVariables false

theorem val_none (c : Int) (w : World) (h0 : 0 ≤ c) (h1 : c ≤ 255) (hv : hexv c = none) :
    Calls Yba.prog 13 #[.int .u8 c] w fun e w' => e = .returned (.int .i64 (-1)) ∧ w = w' := by
  have g1 : ¬ (48 ≤ c ∧ c ≤ 57) := by intro h; simp [hexv, h] at hv
  have g2 : ¬ (97 ≤ c ∧ c ≤ 102) := by intro h; simp [hexv, g1, h] at hv
  have g3 : ¬ (65 ≤ c ∧ c ≤ 70) := by intro h; simp [hexv, g1, g2, h] at hv
  clear hv
  go_enter Yba.func13, Yba.ntmps13
  go_wp2
  all_goals (go_ret; exact ⟨rfl, rfl⟩)

theorem val_some (c d : Int) (w : World) (h0 : 0 ≤ c) (h1 : c ≤ 255) (hv : hexv c = some d) :
    Calls Yba.prog 13 #[.int .u8 c] w fun e w' => e = .returned (.int .i64 d) ∧ w = w' := by
  by_cases g1 : 48 ≤ c ∧ c ≤ 57
  · have : d = c - 48 := by simp [hexv, g1] at hv; omega
    subst this
    obtain ⟨g1, g2⟩ := g1
    clear hv
    go_enter Yba.func13, Yba.ntmps13
    go_wp2
    go_ret; exact ⟨rfl, rfl⟩
  by_cases g2 : 97 ≤ c ∧ c ≤ 102
  · have : d = c - 87 := by simp [hexv, g1, g2] at hv; omega
    subst this
    obtain ⟨g2, g3⟩ := g2
    clear hv g1
    go_enter Yba.func13, Yba.ntmps13
    go_wp2
    go_ret; exact ⟨rfl, rfl⟩
  by_cases g3 : 65 ≤ c ∧ c ≤ 70
  · have : d = c - 55 := by simp [hexv, g1, g2, g3] at hv; omega
    subst this
    obtain ⟨g3, g4⟩ := g3
    clear hv g1 g2
    go_enter Yba.func13, Yba.ntmps13
    go_wp2
    go_ret; exact ⟨rfl, rfl⟩
  · simp [hexv, g1, g2, g3] at hv

set_option maxHeartbeats 400000 in
theorem model_any (tb n cap p : Nat) (zs : List Int) (w : World)
    (hz : zs.length = n) (hp : p ≤ n) (hn : n ≤ 100000) (hb : ∀ i, 0 ≤ zs.getD i 0 ∧ zs.getD i 0 ≤ 255)
    (hT : ∀ i, i < n → w.cell? ⟨tb, i, none⟩ = some (.int .u8 (zs.getD i 0))) :
    Calls Yba.prog 9 #[.slice (some ⟨tb, 0, none⟩) n cap, .int .i64 (p : Int)] w fun e w' => e = .returned (.tuple #[.int .i32 (hex4F zs p).1, .int .i64 ((hex4F zs p).2 : Int)]) ∧ w = w' := by
  have HT : Hid (∀ i, i < n → w.cell? ⟨tb, i, none⟩ = some (.int .u8 (zs.getD i 0))) := hT
  have HB : Hid (∀ i, 0 ≤ zs.getD i 0 ∧ zs.getD i 0 ≤ 255) := hb
  clear hT hb
  by_cases hpn : p < n
  · obtain ⟨x, hx⟩ : ∃ x, x = zs.getD p 0 := ⟨_, rfl⟩
    have hc := HT.out p hpn
    rw [← hx] at hc
    have HX : Hid (x = zs.getD p 0) := hx
    clear hx
    by_cases hu : x = 117
    · subst hu
      have e4 : hex4F zs p = hexL zs 4 (p + 1) 0 := by unfold hex4F; rw [if_pos HX.out.symm]
      rw [e4]
      clear e4
      have hnp : decide (n ≤ p) = false := decide_eq_false (by omega)
      go_enter Yba.func9, Yba.ntmps9
      go_wp2
      go_loop [1, 6, 7] (fun a v i => ∃ (k q : Nat) (r : Int), k ≤ 4 ∧ q ≤ n ∧ a = .int .i64 (q : Int) ∧ i = .int .i64 (k : Int) ∧ v = .int .i64 r ∧ 0 ≤ r ∧ r < ((16 ^ k : Nat) : Int) ∧ Hid (hexL zs (4 - k) q r = hexL zs 4 (p + 1) 0)) (fun _ _ i => 4 - (intOf i).toNat)
      case atStart => exact ⟨0, p + 1, 0, by omega, by omega, by go_num, rfl, rfl, by omega, by decide, rfl⟩
      case round =>
        obtain ⟨k, q, r, hk, hq, rfl, rfl, rfl, hr0, hr1, HL⟩ := hrel
        by_cases hk4 : k < 4
        · have hr2 : r ≤ 4095 := by
            have : (16 : Nat) ^ k ≤ 16 ^ 3 := Nat.pow_le_pow_right (by decide) (by omega)
            omega
          by_cases hqn : q < n
          · obtain ⟨y, hy⟩ : ∃ y, y = zs.getD q 0 := ⟨_, rfl⟩
            have hcy := HT.out q hqn
            have hyb := HB.out q
            rw [← hy] at hcy hyb
            have HY : Hid (y = zs.getD q 0) := hy
            clear hy
            cases hv : hexv y with
            | none =>
              have hst := (hex_stop (r := r) hk4 HY.out hv).symm.trans HL.out
              have fin : Ending.returned (.tuple #[.int .i32 (-1), .int .i64 (q : Int)]) = .returned (.tuple #[.int .i32 (hexL zs 4 (p + 1) 0).1, .int .i64 ((hexL zs 4 (p + 1) 0).2 : Int)]) := by rw [← hst]
              have hcall := fun w => val_none y w hyb.1 hyb.2 hv
              clear hst hv
              go_wp2_with (go_at_call 13; refine (hcall _).mono ?_; rintro e w' ⟨rfl, rfl⟩)
              go_ret2
              exact ⟨fin, rfl⟩
            | some d =>
              have hcall := fun w => val_some y d w hyb.1 hyb.2 hv
              obtain ⟨b0, b1, b2⟩ := hexv_bd hv
              have hst : Hid (hexL zs (4 - (k + 1)) (q + 1) (r * 16 + d) = hexL zs 4 (p + 1) 0) := (hex_step hk4 HY.out hv).trans HL.out
              clear hv b2
              go_wp2_with (go_at_call 13; refine (hcall _).mono ?_; rintro e w' ⟨rfl, rfl⟩)
              go_round
              case rel =>
                exact ⟨k + 1, q + 1, r * 16 + d, by omega, by omega, by go_num, by go_num, rfl, by omega, pow_step hr1 b1, hst⟩
              case measure => simp [intOf]; omega
          · have hy : (0 : Int) = zs.getD q 0 := by simp [List.getD, List.getElem?_eq_none (by omega : zs.length ≤ q)]
            have hst := (hex_stop (r := r) hk4 hy (by decide)).symm.trans HL.out
            have fin : Ending.returned (.tuple #[.int .i32 (-1), .int .i64 (q : Int)]) = .returned (.tuple #[.int .i32 (hexL zs 4 (p + 1) 0).1, .int .i64 ((hexL zs 4 (p + 1) 0).2 : Int)]) := by rw [← hst]
            clear hst hy
            go_wp2
            go_ret2
            exact ⟨fin, rfl⟩
        · have ek : k = 4 := by omega
          have hst := HL.out
          rw [ek] at hst
          have hr3 : r ≤ 65535 := by rw [ek] at hr1; have : ((16 ^ 4 : Nat) : Int) = 65536 := rfl; omega
          have fin : Ending.returned (.tuple #[.int .i32 r, .int .i64 (q : Int)]) = .returned (.tuple #[.int .i32 (hexL zs 4 (p + 1) 0).1, .int .i64 ((hexL zs 4 (p + 1) 0).2 : Int)]) := by
            rw [← hst]; rfl
          clear hst ek
          go_wp2
          go_ret2
          exact ⟨fin, rfl⟩
    · have e4 : hex4F zs p = (-1, p) := by unfold hex4F; rw [if_neg (by rw [← HX.out]; exact hu)]
      rw [e4]
      have hu' : (x != 117) = true := by simpa using hu
      clear e4 hu
      go_enter Yba.func9, Yba.ntmps9
      go_wp2
      go_ret2
      exact ⟨rfl, rfl⟩
  · have e4 : hex4F zs p = (-1, p) := by unfold hex4F; rw [if_neg (by simp [List.getD, List.getElem?_eq_none (by omega : zs.length ≤ p)])]
    rw [e4]
    clear e4
    go_enter Yba.func9, Yba.ntmps9
    go_wp2
    go_ret2
    exact ⟨rfl, rfl⟩
end Go.Proofs.Ybulkcyim.Model
