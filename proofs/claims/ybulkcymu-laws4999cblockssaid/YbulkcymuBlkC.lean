import Derived.Test.YbulkcymuBlkB
namespace Go.Proofs.Ybulkcymu.Blk
open Go.RowKit
set_option linter.unusedVariables false

theorem infoU : (Yba.prog.info? 42).map (fun i => (i.zero, i.size, i.bytes)) = some (some (.int .u64 0), 1, 8) := by kernel_rfl
theorem make_u (w : World) : (Instr.makeSlice 22 (.int .i64 1024) (.int .i64 1024)).run Yba.prog w = .ok (.slice (some ⟨w.heap.size, 0, none⟩) 1024 1024) (w.alloc (.cells (madeCells #[.int .u64 0] 1024) 42)) := by
  obtain ⟨i0, hi, hz0, hz1, hz2⟩ := info_parts infoU
  have := run_make (P := Yba.prog) w 22 42 i0 (.int .u64 0) Yba.underlying22 hi hz0 .i64 .i64 1024 1024 (by omega) (by omega) (by rw [hz2]; omega) (by omega)
  rw [hz1] at this
  simpa [Value.cells] using this

set_option maxHeartbeats 1000000 in
theorem mark_nil (ob s x n base : Nat) (Z : Array Value) (w : World) (hn : 1 ≤ n) (hx : x + n ≤ 9223372036854775807) (hs : s ≤ 46) (hob : ob < w.heap.size) (h6 : w.cell? ⟨ob, 6, none⟩ = some (.slice none 0 0)) (hf : w.frozen? ⟨ob, 6, none⟩ = false) (h7 : w.cell? ⟨ob, 7, none⟩ = some (.int .u64 (s : Int)))
    (hmk : ∀ w, (Instr.makeSlice 22 (.int .i64 1024) (.int .i64 1024)).run Yba.prog w = .ok (.slice (some ⟨w.heap.size, 0, none⟩) 1024 1024) (w.alloc (.cells Z 42)))
    (hbo : base ≤ ob) (hZ : ∀ j, j < 1024 → Z[j]? = some (.int .u64 0)) :
    Calls Yba.prog 5 #[.pointer (some ⟨ob, 0, none⟩), .int .i64 (x : Int), .int .i64 (n : Int)] w fun e w' => e = .returned (.tuple #[]) ∧ Below base w w' ∧ ∃ W', MS ob w.heap.size s W' w' ∧
      ∀ b, b < 65536 → (W' (b / 64)).testBit (b % 64) = decide (min (x / 2 ^ s) 65535 ≤ b ∧ b ≤ min ((x + n - 1) / 2 ^ s) 65535) := by
  have M1 : MS ob w.heap.size s (fun _ => 0) ((w.setCell ⟨ob, 6, none⟩ (.slice (some ⟨w.heap.size, 0, none⟩) 1024 1024)).alloc (.cells Z 42)) := by
    have hsz : (w.setCell ⟨ob, 6, none⟩ (.slice (some ⟨w.heap.size, 0, none⟩) 1024 1024)).heap.size = w.heap.size := by simp
    refine ⟨?_, ?_, fun j hj => ?_, fun j => ?_, fun _ => by decide, by omega⟩
    · rw [World.cell?_alloc_past _ _ _ (by rw [hsz]; exact hob)]
      exact World.cell?_setCell_same _ _ _ h6
    · rw [World.cell?_alloc_past _ _ _ (by rw [hsz]; exact hob), World.cell?_setCell_other _ ⟨ob, 6, none⟩ ⟨ob, 7, none⟩ _ (by simp)]
      exact h7
    · have := heap_alloc_new (w.setCell ⟨ob, 6, none⟩ (.slice (some ⟨w.heap.size, 0, none⟩) 1024 1024)) (.cells Z 42)
      rw [hsz] at this
      rw [cell_of_row _ _ j Z 42 (0, 0) this, hZ j hj]
      rfl
    · have := heap_alloc_new (w.setCell ⟨ob, 6, none⟩ (.slice (some ⟨w.heap.size, 0, none⟩) 1024 1024)) (.cells Z 42)
      rw [hsz] at this
      unfold World.frozen?
      simp only [this]
      simp
  have B1 : Below base w ((w.setCell ⟨ob, 6, none⟩ (.slice (some ⟨w.heap.size, 0, none⟩) 1024 1024)).alloc (.cells Z 42)) :=
    ((Below.refl base w).setCell hbo _).alloc (by simp; omega) _
  obtain ⟨g, hg⟩ : ∃ g : Nat → Nat, ∀ z, min (z / 2 ^ s) 65535 = g z := ⟨fun z => min (z / 2 ^ s) 65535, fun z => rfl⟩
  obtain ⟨y, hy⟩ : ∃ y : Nat, y = x + n - 1 := ⟨_, rfl⟩
  have cc : ∀ z : Nat, z ≤ 9223372036854775807 → Calls Yba.prog 7 #[.pointer (some ⟨ob, 0, none⟩), .int .i64 (z : Int)] ((w.setCell ⟨ob, 6, none⟩ (.slice (some ⟨w.heap.size, 0, none⟩) 1024 1024)).alloc (.cells Z 42)) fun e w' => ((w.setCell ⟨ob, 6, none⟩ (.slice (some ⟨w.heap.size, 0, none⟩) 1024 1024)).alloc (.cells Z 42)) = w' ∧ e = .returned (.int .i64 (g z : Int)) := fun z hz => by
    rw [← hg]; exact block_any ob z s _ hz hs M1.r7
  rw [← hy, hg, hg]
  obtain ⟨lo, hlo⟩ : ∃ lo, g x = lo := ⟨_, rfl⟩
  obtain ⟨hi, hhi⟩ : ∃ hi, g y = hi := ⟨_, rfl⟩
  have hlo2 : lo ≤ 65535 := by rw [← hlo, ← hg]; omega
  have hhi2 : hi ≤ 65535 := by rw [← hhi, ← hg]; omega
  rw [hlo, hhi]
  have hy2 : y ≤ 9223372036854775807 := by omega
  have hlh : lo ≤ hi := by
    have := Nat.div_le_div_right (c := 2 ^ s) (show x ≤ y by omega)
    rw [← hlo, ← hhi, ← hg, ← hg]
    omega
  have e1 : (x : Int) + (n : Int) - 1 = (y : Int) := by omega
  have hnil := fun w' => Lib.run_eql_slice_nil (P := Yba.prog) w' 22 42 none 0 0 0 0 Yba.underlying22
  simp only [Option.isNone_none] at hnil
  clear hy hg hZ
  go_enter Yba.func5, Yba.ntmps5
  go_wp2_with (go_at_call 7; refine (cc _ (by omega)).mono ?_; rintro e w1 ⟨rfl, rfl⟩)
  go_loopw [7] (fun i wr => ∃ k : Nat, lo ≤ k ∧ i = .int .i64 (k : Int) ∧ k ≤ 65536 ∧ k ≤ hi + 1 ∧ Below base w wr ∧ ∃ W', MS ob w.heap.size s W' wr ∧ ∀ b, b < 65536 → (W' (b / 64)).testBit (b % 64) = decide (lo ≤ b ∧ b < k)) (fun i _ => 65536 - (intOf i).toNat)
  case atStart => exact ⟨lo, Nat.le_refl _, rfl, by omega, by omega, B1, _, M1, fun b _ => by rw [Nat.zero_testBit]; exact (decide_eq_false (by omega)).symm⟩
  case round =>
    obtain ⟨k, hk, rfl, hk2, hk3, bel, W', M, hbits⟩ := hrel
    by_cases hkh : k ≤ hi
    · have r6 := M.r6
      obtain ⟨q, hq⟩ : ∃ q : Nat, (k : Int) / 64 = (q : Int) := ⟨k / 64, by omega⟩
      obtain ⟨r, hr⟩ : ∃ r : Nat, (k : Int) % 64 = (r : Int) := ⟨k % 64, by omega⟩
      have hq2 : q < 1024 := by omega
      have hr2 : r < 64 := by omega
      have rk := M.row q hq2
      have vb := M.bd q
      have fk := M.fz q
      go_wp2
      go_region
      go_wp2
      go_roundw
      case rel =>
        refine ⟨k + 1, by omega, by go_num, by omega, by omega, (bel.setCell (show base ≤ w.heap.size by omega) _).drew, _, M.put q r hq2 hr2, fun b hb => ?_⟩
        have p1 := put_bit W' k b
        rw [show k / 64 = q by omega, show k % 64 = r by omega] at p1
        rw [p1, hbits b hb]
        rw [← Bool.decide_or]
        exact decide_eq_decide.2 (by omega)
      case measure => simp [intOf]; omega
    · go_wp2
      go_end0
      refine ⟨rfl, bel, W', M, fun b hb => ?_⟩
      rw [hbits b hb]
      exact decide_eq_decide.2 (by omega)
end Go.Proofs.Ybulkcymu.Blk
