import Derived.Test.YbulkcyimPeek
namespace Go.Proofs.Ybulkcyim.Hex
open Go.RowKit
set_option linter.unusedVariables false

/-- A hex digit's value. -/
def hexv (c : Int) : Option Int :=
  if 48 ≤ c ∧ c ≤ 57 then some (c - 48) else if 97 ≤ c ∧ c ≤ 102 then some (c - 87) else if 65 ≤ c ∧ c ≤ 70 then some (c - 55) else none
/-- So many digits more, from place p on, r read so far. -/
def hexL (zs : List Int) : Nat → Nat → Int → Int × Nat
  | 0, p, r => (r, p)
  | k + 1, p, r => match hexv (zs.getD p 0) with | none => (-1, p) | some d => hexL zs k (p + 1) (r * 16 + d)
def hex4F (zs : List Int) (p : Nat) : Int × Nat := if zs.getD p 0 = 117 then hexL zs 4 (p + 1) 0 else (-1, p)

/-- The world w' is w but for the scanner's pos, which is p. -/
structure Moved (sb : Nat) (w w' : World) (p : Nat) : Prop where
  pos : w'.cell? ⟨sb, 1, none⟩ = some (.int .i64 (p : Int))
  cell : ∀ b o, ¬ (b = sb ∧ o = 1) → w'.cell? ⟨b, o, none⟩ = w.cell? ⟨b, o, none⟩
  frozen : ∀ a, w'.frozen? a = w.frozen? a
  size : w'.heap.size = w.heap.size
  below : ∀ B, B ≤ sb → Below B w w'

theorem Moved.refl {sb p : Nat} {w : World} (h : w.cell? ⟨sb, 1, none⟩ = some (.int .i64 (p : Int))) : Moved sb w w p :=
  ⟨h, fun _ _ _ => rfl, fun _ => rfl, rfl, fun B _ => Below.refl B w⟩
theorem Moved.drewN {sb p : Nat} {w w' : World} (h : Moved sb w w' p) (k : Nat) : Moved sb w (w'.drewN k) p :=
  ⟨h.pos, h.cell, h.frozen, h.size, fun B hB => (h.below B hB).trans ⟨rfl, rfl, rfl, Nat.le_refl _, fun _ _ => rfl⟩⟩
theorem Moved.set {sb p : Nat} {w w' : World} (h : Moved sb w w' p) (q : Nat) : Moved sb w (w'.setCell ⟨sb, 1, none⟩ (.int .i64 (q : Int))) q :=
  ⟨World.cell?_setCell_same _ _ _ h.pos,
   fun b o hb => (World.cell?_setCell_other _ ⟨sb, 1, none⟩ ⟨b, o, none⟩ _ (by simp; intro h1 h2; exact hb ⟨h1.symm, h2.symm⟩)).trans (h.cell b o hb),
   fun a => by simp [h.frozen], by simpa using h.size, fun B hB => (h.below B hB).setCell hB _⟩

theorem or_i32 (a d : Int) (h0 : 0 ≤ a) (h1 : a ≤ 4095) (h2 : 0 ≤ d) (h3 : d ≤ 15) : bits .or .i32 (a * 16) d = a * 16 + d := by
  obtain ⟨A, rfl⟩ := Int.eq_ofNat_of_zero_le h0
  obtain ⟨D, rfl⟩ := Int.eq_ofNat_of_zero_le h2
  have e : (A * 16) ||| D = A * 16 + D := by
    have := Nat.two_pow_add_eq_or_of_lt (i := 4) (b := D) (by omega) A
    rw [show A * 16 = 2 ^ 4 * A by omega, ← this]
  have e1 : (BitVec.ofInt 32 (((A : Nat) : Int) * 16)).toNat = A * 16 := by
    rw [show ((A : Nat) : Int) * 16 = ((A * 16 : Nat) : Int) by omega, BitVec.ofInt_natCast, BitVec.toNat_ofNat]; omega
  have e2 : (BitVec.ofInt 32 ((D : Nat) : Int)).toNat = D := by rw [BitVec.ofInt_natCast, BitVec.toNat_ofNat]; omega
  show IntKind.i32.wrap ((BitVec.ofInt 32 (((A : Nat) : Int) * 16) ||| BitVec.ofInt 32 ((D : Nat) : Int)).toNat : Int) = _
  rw [BitVec.toNat_or, e1, e2, e, IntKind.wrap_i32]
  omega

theorem hexv_bd {y d : Int} (h : hexv y = some d) : 0 ≤ d ∧ d ≤ 15 ∧ y ≠ 0 := by
  unfold hexv at h
  split at h
  · cases h; omega
  split at h
  · cases h; omega
  split at h
  · cases h; omega
  · cases h
theorem hex_step {zs : List Int} {k q : Nat} {r y d : Int} (hk : k < 4) (hy : y = zs.getD q 0) (hv : hexv y = some d) : hexL zs (4 - (k + 1)) (q + 1) (r * 16 + d) = hexL zs (4 - k) q r := by
  obtain ⟨m, hm⟩ : ∃ m, 4 - k = m + 1 := ⟨3 - k, by omega⟩
  rw [hm, show 4 - (k + 1) = m by omega]
  rw [hexL, ← hy, hv]
theorem hex_stop {zs : List Int} {k q : Nat} {r y : Int} (hk : k < 4) (hy : y = zs.getD q 0) (hv : hexv y = none) : hexL zs (4 - k) q r = (-1, q) := by
  obtain ⟨m, hm⟩ : ∃ m, 4 - k = m + 1 := ⟨3 - k, by omega⟩
  rw [hm, hexL, ← hy, hv]
theorem in_text {zs : List Int} {q n : Nat} {y : Int} (hz : zs.length = n) (hy : y = zs.getD q 0) (h : y ≠ 0) : q + 1 ≤ n := by
  rcases Nat.lt_or_ge q n with h' | h'
  · omega
  · exact absurd (hy.trans (by simp [List.getD, List.getElem?_eq_none (by omega : zs.length ≤ q)])) h
theorem pow_step {r d : Int} {k : Nat} (h : r < ((16 ^ k : Nat) : Int)) (hd : d ≤ 15) : r * 16 + d < ((16 ^ (k + 1) : Nat) : Int) := by
  rw [Nat.pow_succ]; omega
/-- The round's relation behind a digit. -/
theorem rel_digit {sb : Nat} {w wr : World} {zs : List Int} {n k q p k2 : Nat} {r y d : Int} (hz : zs.length = n) (hk : k < 4) (hr0 : 0 ≤ r) (hr1 : r < ((16 ^ k : Nat) : Int)) (hr2 : r ≤ 4095) (HL : Hid (hexL zs (4 - k) q r = hexL zs 4 (p + 1) 0)) (hM : Moved sb w wr q)
    (HY : Hid (y = zs.getD q 0)) (hv : hexv y = some d) {c : Int} (hc : c = d) :
    ∃ (k1 q1 : Nat) (r1 : Int), k1 ≤ 4 ∧ q1 ≤ n ∧ Value.int .i64 ((k : Int) + 1) = .int .i64 (k1 : Int) ∧ Value.int .i32 (bits .or .i32 (r * 16) c) = .int .i32 r1 ∧ 0 ≤ r1 ∧ r1 < ((16 ^ k1 : Nat) : Int) ∧ Hid (hexL zs (4 - k1) q1 r1 = hexL zs 4 (p + 1) 0) ∧
      Moved sb w ((wr.drewN k2).setCell ⟨sb, 1, none⟩ (.int .i64 ((q : Int) + 1))) q1 := by
  subst hc
  obtain ⟨b0, b1, b2⟩ := hexv_bd hv
  exact ⟨k + 1, q + 1, r * 16 + c, by omega, in_text hz HY.out b2, by simp, by rw [or_i32 r c hr0 hr2 b0 b1], by omega, pow_step hr1 b1, (hex_step hk HY.out hv).trans HL.out, by simpa using (hM.drewN k2).set (q + 1)⟩

set_option maxHeartbeats 400000 in
theorem hex4_any (sb tb to n cap p : Nat) (zs : List Int) (w : World)
    (c0 : w.cell? ⟨sb, 0, none⟩ = some (.slice (some ⟨tb, to, none⟩) n cap))
    (c1 : w.cell? ⟨sb, 1, none⟩ = some (.int .i64 (p : Int))) (hf : w.frozen? ⟨sb, 1, none⟩ = false)
    (hz : zs.length = n) (hp : p ≤ n) (hn : n ≤ 100000) (hb : ∀ i, 0 ≤ zs.getD i 0 ∧ zs.getD i 0 ≤ 255) (hne : tb ≠ sb)
    (hT : ∀ i, i < n → w.cell? ⟨tb, to + i, none⟩ = some (.int .u8 (zs.getD i 0))) :
    Calls Yba.prog 8 #[.pointer (some ⟨sb, 0, none⟩)] w fun e w' => e = .returned (.int .i32 (hex4F zs p).1) ∧ Moved sb w w' (hex4F zs p).2 := by
  have HT : Hid (∀ i, i < n → w.cell? ⟨tb, to + i, none⟩ = some (.int .u8 (zs.getD i 0))) := hT
  have HB : Hid (∀ i, 0 ≤ zs.getD i 0 ∧ zs.getD i 0 ≤ 255) := hb
  clear hT hb
  obtain ⟨x, hx⟩ : ∃ x, x = zs.getD p 0 := ⟨_, rfl⟩
  have HX : Hid (x = zs.getD p 0) := hx
  have hpk := peek_any sb tb to n cap p zs w c0 c1 hz hp hn (HT.out p)
  rw [← hx] at hpk
  clear hx
  by_cases hu : x = 117
  · subst hu
    have e4 : hex4F zs p = hexL zs 4 (p + 1) 0 := by unfold hex4F; rw [if_pos HX.out.symm]
    rw [e4]
    clear e4
    go_enter Yba.func8, Yba.ntmps8
    go_wp2_with (go_at_call 12; refine hpk.mono ?_; rintro e w' ⟨rfl, k, rfl⟩)
    have hM0 : Moved sb w ((w.drewN k).setCell ⟨sb, 1, none⟩ (.int .i64 ((p : Int) + 1))) (p + 1) := by simpa using ((Moved.refl c1).drewN k).set (p + 1)
    have hp1 : p + 1 ≤ n := by
      rcases Nat.lt_or_ge p n with h | h
      · omega
      · have := HX.out; simp [List.getD, List.getElem?_eq_none (by omega : zs.length ≤ p)] at this
    have HM : Hid (Moved sb w ((w.drewN k).setCell ⟨sb, 1, none⟩ (.int .i64 ((p : Int) + 1))) (p + 1)) := hM0
    clear hM0 hpk
    go_loopw [3, 15] (fun r i wr => ∃ (k q : Nat) (r' : Int), k ≤ 4 ∧ q ≤ n ∧ i = .int .i64 (k : Int) ∧ r = .int .i32 r' ∧ 0 ≤ r' ∧ r' < ((16 ^ k : Nat) : Int) ∧ Hid (hexL zs (4 - k) q r' = hexL zs 4 (p + 1) 0) ∧ Moved sb w wr q) (fun _ i _ => 4 - (intOf i).toNat)
    case atStart => exact ⟨0, p + 1, 0, by omega, hp1, rfl, rfl, by omega, by decide, rfl, HM.out⟩
    case round =>
      obtain ⟨k', q, r', hk, hq, rfl, rfl, hr0, hr1, HL, hM⟩ := hrel
      have d0 : wr.cell? ⟨sb, 0, none⟩ = some (.slice (some ⟨tb, to, none⟩) n cap) := (hM.cell sb 0 (by omega)).trans c0
      have d1 := hM.pos
      have df : wr.frozen? ⟨sb, 1, none⟩ = false := (hM.frozen _).trans hf
      by_cases hk4 : k' < 4
      · have hr2 : r' ≤ 4095 := by
          have : (16 : Nat) ^ k' ≤ 16 ^ 3 := Nat.pow_le_pow_right (by decide) (by omega)
          omega
        obtain ⟨y, hy⟩ : ∃ y, y = zs.getD q 0 := ⟨_, rfl⟩
        have hpk := peek_any sb tb to n cap q zs wr d0 d1 hz hq hn (fun h => (hM.cell tb (to + q) (by omega)).trans (HT.out q h))
        have hyb := HB.out q
        rw [← hy] at hpk hyb
        obtain ⟨hy0, hy1⟩ := hyb
        have HY : Hid (y = zs.getD q 0) := hy
        clear hy
        by_cases g1 : 48 ≤ y ∧ y ≤ 57
        · have hv : hexv y = some (y - 48) := by unfold hexv; rw [if_pos g1]
          have R := fun k2 => rel_digit (k2 := k2) (c := y - 48) hz hk4 hr0 hr1 hr2 HL hM HY hv rfl
          obtain ⟨g1, g2⟩ := g1
          clear hv
          go_wp2_with (go_at_call 12; refine hpk.mono ?_; rintro e w' ⟨rfl, k2, rfl⟩)
          go_roundw
          case rel => exact R _
          case measure => simp [intOf]; omega
        by_cases g2 : 97 ≤ y ∧ y ≤ 102
        · have hv : hexv y = some (y - 87) := by unfold hexv; rw [if_neg g1, if_pos g2]
          have R := fun k2 => rel_digit (k2 := k2) (c := y - 97 + 10) hz hk4 hr0 hr1 hr2 HL hM HY hv (by omega)
          obtain ⟨g2, g3⟩ := g2
          clear hv g1
          have g1 : ¬ y ≤ 57 := by omega
          go_wp2_with (go_at_call 12; refine hpk.mono ?_; rintro e w' ⟨rfl, k2, rfl⟩)
          go_roundw
          case rel => exact R _
          case measure => simp [intOf]; omega
        by_cases g3 : 65 ≤ y ∧ y ≤ 70
        · have hv : hexv y = some (y - 55) := by unfold hexv; rw [if_neg g1, if_neg g2, if_pos g3]
          have R := fun k2 => rel_digit (k2 := k2) (c := y - 65 + 10) hz hk4 hr0 hr1 hr2 HL hM HY hv (by omega)
          obtain ⟨g3, g4⟩ := g3
          clear hv g1 g2
          go_wp2_with (go_at_call 12; refine hpk.mono ?_; rintro e w' ⟨rfl, k2, rfl⟩)
          go_roundw
          case rel => exact R _
          case measure => simp [intOf]; omega
        · have hv : hexv y = none := by unfold hexv; rw [if_neg g1, if_neg g2, if_neg g3]
          have hst := (hex_stop (r := r') hk4 HY.out hv).symm.trans HL.out
          have fin : Ending.returned (.int .i32 (-1)) = .returned (.int .i32 (hexL zs 4 (p + 1) 0).1) ∧ ∀ k2, Moved sb w (wr.drewN k2) (hexL zs 4 (p + 1) 0).2 := by
            rw [← hst]; exact ⟨rfl, fun k2 => hM.drewN k2⟩
          clear hst hv
          go_wp2_with (go_at_call 12; refine hpk.mono ?_; rintro e w' ⟨rfl, k2, rfl⟩)
          all_goals (go_ret; exact ⟨fin.1, fin.2 _⟩)
      · have ek : k' = 4 := by omega
        have hst := HL.out
        have fin : Ending.returned (.int .i32 r') = .returned (.int .i32 (hexL zs 4 (p + 1) 0).1) ∧ Moved sb w wr (hexL zs 4 (p + 1) 0).2 := by
          rw [← hst, ek]; exact ⟨rfl, hM⟩
        clear hst ek
        go_wp2
        go_ret
        exact fin
  · have hu' : (x != 117) = true := by simpa using hu
    have e4 : hex4F zs p = (-1, p) := by unfold hex4F; rw [if_neg (by rw [← HX.out]; exact hu)]
    rw [e4]
    go_enter Yba.func8, Yba.ntmps8
    go_wp2_with (go_at_call 12; refine hpk.mono ?_; rintro e w' ⟨rfl, k, rfl⟩)
    go_ret
    exact ⟨rfl, (Moved.refl c1).drewN _⟩
end Go.Proofs.Ybulkcyim.Hex
