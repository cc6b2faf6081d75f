import Derived.Test.YbulkcyjoFmtYuan
import Derived.Laws.BytesArg
namespace Go.Proofs.YbulkcyjoFmt
open Go.RowKit
set_option linter.unusedVariables false

/-- The array behind k digits. -/
structure DRel (B u : Nat) (w : World) (k : Nat) (wr : World) : Prop where
  cells : ∀ j, j < 20 → ∃ x, wr.cell? ⟨B, j, none⟩ = some (.int .u8 x)
  dig : ∀ j, 20 - k ≤ j → j < 20 → wr.cell? ⟨B, j, none⟩ = some (.int .u8 (48 + ((u / 10 ^ (19 - j) % 10 : Nat) : Int)))
  frozen : ∀ j, wr.frozen? ⟨B, j, none⟩ = false
  below : Below B w wr

theorem DRel.step {B u : Nat} {w : World} {k t : Nat} {wr : World} (h : DRel B u w k wr) (ht : t + k = 19) {d : Int} (hd : d = 48 + ((u / 10 ^ k % 10 : Nat) : Int)) :
    DRel B u w (k + 1) (wr.setCell ⟨B, t, none⟩ (.int .u8 d)) := by
  obtain ⟨x, hx⟩ := h.cells t (by omega)
  refine ⟨fun j hj => ?_, fun j h1 h2 => ?_, fun j => by simp [h.frozen j], h.below.setCell (Nat.le_refl _) _⟩
  · by_cases e : j = t
    · subst e; exact ⟨_, World.cell?_setCell_same _ _ _ hx⟩
    · rw [World.cell?_setCell_other _ ⟨B, t, none⟩ ⟨B, j, none⟩ _ (fun e' => e (congrArg Addr.off e').symm)]; exact h.cells j hj
  · by_cases e : j = t
    · subst e
      rw [World.cell?_setCell_same _ _ _ hx, hd, show 19 - j = k by omega]
    · rw [World.cell?_setCell_other _ ⟨B, t, none⟩ ⟨B, j, none⟩ _ (fun e' => e (congrArg Addr.off e').symm)]; exact h.dig j (by omega) h2

theorem DRel.start (u : Nat) (w : World) : DRel w.heap.size u w 0 (w.alloc (.cells #[.int .u8 0, .int .u8 0, .int .u8 0, .int .u8 0, .int .u8 0, .int .u8 0, .int .u8 0, .int .u8 0, .int .u8 0, .int .u8 0, .int .u8 0, .int .u8 0, .int .u8 0, .int .u8 0, .int .u8 0, .int .u8 0, .int .u8 0, .int .u8 0, .int .u8 0, .int .u8 0] 26)) := by
  refine ⟨fun j hj => ?_, fun j h1 h2 => by omega, fun j => by simp [go_sem], (Below.refl _ w).alloc (Nat.le_refl _) _⟩
  exact ⟨0, by
    rw [World.cell?_alloc_at _ _ _ _ rfl]
    show (Array.replicate 20 (Value.int .u8 0))[j]? = _
    rw [Array.getElem?_replicate, if_pos hj]⟩

/-- The digits as numbers. -/
def digN (u n : Nat) : List Int := (List.range n).map fun t => 48 + ((u / 10 ^ (n - 1 - t) % 10 : Nat) : Int)
theorem digN_str (u : Nat) : strOfNums (digN u (Lib.nDigits u)) = ⟨(Lib.decDigits u).toArray⟩ := by
  unfold strOfNums
  congr 2
  rw [Lib.decDigits_eq, digN, List.map_map]
  apply List.map_congr_left
  intro t ht
  simp only [Function.comp, Lib.dg]
  congr 1

theorem DRel.text {B u n : Nat} {w wr : World} (h : DRel B u w n wr) (hn : n = Lib.nDigits u) (hn2 : n ≤ 20) {t : Nat} (ht : t + n = 20) (cap : Nat) :
    (convert 27 9 (.slice (some ⟨B, t, none⟩) n cap)).run Ybaf.prog wr = .ok (.string ⟨(Lib.decDigits u).toArray⟩) wr := by
  have key := run_convert_bytes_arg (P := Ybaf.prog) wr 27 5 Ybaf.underlying27 Ybaf.underlying5 B t n cap (digN u n) (by simp [digN]) (fun i hi => by
    rw [h.dig (t + i) (by omega) (by omega)]
    simp only [digN, List.getD_eq_getElem?_getD, List.getElem?_map, List.getElem?_range hi, Option.map_some, Option.getD_some]
    rw [show 19 - (t + i) = n - 1 - i by omega]) 9 Ybaf.underlying9
  rw [key]
  subst hn
  rw [digN_str]

theorem nDigits_div (u k : Nat) (h : k < Lib.nDigits u) : Lib.nDigits (u / 10 ^ k) = Lib.nDigits u - k := by
  induction k generalizing u with
  | zero => simp
  | succ k ih =>
    have hu : ¬ u < 10 := by intro hc; rw [Lib.nDigits_small hc] at h; omega
    have e := Lib.nDigits_big hu
    rw [Nat.pow_succ, Nat.mul_comm, ← Nat.div_div_eq_div_mul, ih (u / 10) (by omega)]
    omega

theorem nDigits_le20 (u : Nat) (hu : u < 18446744073709551616) : Lib.nDigits u ≤ 20 := by
  rcases Nat.lt_or_ge 20 (Lib.nDigits u) with h | h
  · have h1 := nDigits_div u 20 h
    have : u / 10 ^ 20 = 0 := Nat.div_eq_of_lt (by omega)
    rw [this, Lib.nDigits_small (by decide)] at h1
    have h2 := nDigits_div u 19 (by omega)
    have h3 : u / 10 ^ 19 < 10 := by omega
    rw [Lib.nDigits_small h3] at h2
    omega
  · exact h

theorem slice_at (B t : Nat) (ht : t < 20) (w : World) : (Instr.sliceAt 26 (.pointer (some ⟨B, 0, none⟩)) (some (.int .i64 (t : Int))) none none).run Ybaf.prog w = .ok (.slice (some ⟨B, t, none⟩) (20 - t) (20 - t)) w := by
  have e1 : Ybaf.prog.arrayLen 26 = 20 := by kernel_rfl
  have e2 : Ybaf.prog.elem 26 = 5 := by kernel_rfl
  rw [run_sliceAt_array_l w 26 ⟨B, 0, none⟩ (by rw [e1, e2]; exact Ybaf.underlying26) .i64 t (by omega) (by rw [e1]; omega), e1, e2, Ybaf.sizeOf5]
  simp [slicedAt, Result.andThen, Addr.add, show ¬ 20 = t by omega]
  intro h
  exact h.symm

set_option maxHeartbeats 1000000 in
theorem dec_any (u : Nat) (w : World) (hu : u < 18446744073709551616) :
    Calls Ybaf.prog 5 #[.int .u64 (u : Int)] w fun e w' => e = .returned (.string ⟨(Lib.decDigits u).toArray⟩) ∧ Below w.heap.size w w' := by
  have hn20 := nDigits_le20 u hu
  have hnp := Lib.nDigits_pos u
  have R0 := DRel.start u w
  obtain ⟨n, hn⟩ : ∃ n, n = Lib.nDigits u := ⟨_, rfl⟩
  have HN : Hid (n = Lib.nDigits u) := hn
  rw [← hn] at hn20 hnp
  clear hn
  go_enter Ybaf.func5, Ybaf.ntmps5
  go_wp2
  go_loopw [0, 4] (fun a i wr => ∃ t k v : Nat, t + k = 19 ∧ k < n ∧ a = .int .u64 (v : Int) ∧ i = .int .i64 ((t : Int) + 1) ∧ v < 18446744073709551616 ∧ Hid (v = u / 10 ^ k) ∧ DRel w.heap.size u w k wr) (fun _ i _ => (intOf i).toNat)
  case atStart => exact ⟨19, 0, u, by omega, by omega, rfl, rfl, hu, by show u = u / 10 ^ 0; simp, R0⟩
  case round =>
    obtain ⟨t, k, v, htk, hkn, rfl, rfl, hv, HV, R⟩ := hrel
    have hd : (48 : Int) + (v : Int) % 10 = 48 + ((u / 10 ^ k % 10 : Nat) : Int) := by rw [← HV.out]; simp
    have R1 := R.step htk hd
    obtain ⟨x, hx⟩ := R.cells t (by omega)
    have hf := R.frozen t
    by_cases hz : v < 10
    · have hk : k + 1 = n := by
        have h1 := nDigits_div u k (by rw [← HN.out]; exact hkn)
        rw [← HV.out, Lib.nDigits_small hz, ← HN.out] at h1
        omega
      rw [hk] at R1
      have hz' : ((v : Int) / 10 == 0) = true := by simp; omega
      have hcv := R1.text (t := t) HN.out hn20 (by omega)
      rw [show n = 20 - t by omega] at hcv
      have hsl := slice_at w.heap.size t (by omega)
      clear hd HV
      go_wp2
      go_ret
      exact ⟨rfl, R1.below⟩
    · have hz' : ((v : Int) / 10 == 0) = false := by simp; omega
      have hk : k + 1 < n := by
        have h1 := nDigits_div u k (by rw [← HN.out]; exact hkn)
        rw [← HV.out, Lib.nDigits_big hz, ← HN.out] at h1
        have := Lib.nDigits_pos (v / 10)
        omega
      have hv' : Hid (v / 10 = u / 10 ^ (k + 1)) := by show _ = _; rw [HV.out, Nat.pow_succ, Nat.div_div_eq_div_mul]
      clear hd HV
      go_wp2
      go_roundw
      case rel => exact ⟨t - 1, k + 1, v / 10, by omega, hk, by go_num, by go_num, by omega, hv', R1⟩
      case measure => simp [intOf]
end Go.Proofs.YbulkcyjoFmt
