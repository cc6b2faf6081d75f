import Derived.Test.YbulkcymuBlkF
namespace Go.Proofs.Ybulkcymu.Blk
open Go.RowKit
set_option linter.unusedVariables false

theorem ms_copied {w w3 : World} {a0 : Option Addr} {pb po q len0 : Nat} {P : Nat → Nat} (F : PF w a0 pb po len0 P) (C : Copied w q len0 P w3) :
    MS w.heap.size (w.heap.size + 1) q (fun j => if j < len0 then P j else 0) (w3.setCell ⟨w.heap.size, 6, none⟩ (.slice (some ⟨w.heap.size + 1, 0, none⟩) 1024 1024)) := by
  have o : ∀ b o v, ¬ (b = w.heap.size ∧ o = 6) → (w3.setCell ⟨w.heap.size, 6, none⟩ v).cell? ⟨b, o, none⟩ = w3.cell? ⟨b, o, none⟩ := fun b o v hn =>
    World.cell?_setCell_other _ ⟨w.heap.size, 6, none⟩ ⟨b, o, none⟩ _ (fun e => hn ⟨(congrArg Addr.block e).symm, (congrArg Addr.off e).symm⟩)
  refine ⟨World.cell?_setCell_same _ _ _ C.r6, (o _ _ _ (by omega)).trans C.r7, fun j hj => (o _ _ _ (by omega)).trans (C.row j hj), fun j => by have := C.fz j; simp [this], fun j => ?_, by omega⟩
  by_cases h : j < len0
  · simp only [if_pos h]; exact F.hpb j h
  · simp only [if_neg h]; decide

theorem mark_pre {w w3 : World} {a0 : Option Addr} {pb po q len0 : Nat} {P : Nat → Nat} (F : PF w a0 pb po len0 P) (C : Copied w q len0 P w3) (o m : Nat) (hm : 1 ≤ m) (hom : o + m ≤ 9223372036854775807) (hq : q ≤ 46) :
    Calls Yba.prog 5 #[.pointer (some ⟨w.heap.size, 0, none⟩), .int .i64 (o : Int), .int .i64 (m : Int)] (w3.setCell ⟨w.heap.size, 6, none⟩ (.slice (some ⟨w.heap.size + 1, 0, none⟩) 1024 1024)) fun e w' => e = .returned (.tuple #[]) ∧ Below w.heap.size w w' ∧ ∃ W', MS w.heap.size (w.heap.size + 1) q W' w' ∧
      ∀ b, b < 65536 → (W' (b / 64)).testBit (b % 64) = (decide (min (o / 2 ^ q) 65535 ≤ b ∧ b ≤ min ((o + m - 1) / 2 ^ q) 65535) || (true && decide (b / 64 < len0) && (P (b / 64)).testBit (b % 64))) := by
  refine (mark_set w.heap.size (w.heap.size + 1) q o m w.heap.size _ _ hm hom hq (ms_copied F C) (Nat.le_refl _) (by omega)).mono ?_
  rintro e w' ⟨rfl, bel, W', M, hb⟩
  refine ⟨rfl, (C.bel.setCell (Nat.le_refl _) _).trans bel, W', M, fun b hbb => ?_⟩
  rw [hb b hbb, Bool.or_comm, Bool.true_and]
  congr 1
  by_cases h : b / 64 < len0
  · simp [h]
  · simp [h]

set_option maxRecDepth 100000 in
set_option maxHeartbeats 1000000 in
theorem law_pre (a0 : Option Addr) (pb po len0 cap0 : Nat) (P : Nat → Nat) (a2 a3 a4 : Int) (Z : Array Value) (w : World) (PP : PF w a0 pb po len0 P) (h1 : -9223372036854775808 ≤ a2) (h2 : a2 ≤ 9223372036854775807) (h3 : -9223372036854775808 ≤ a3) (h4 : a3 ≤ 9223372036854775807) (h5 : 0 ≤ a4) (h6 : a4 ≤ 255)
    (hmk : ∀ w, (Instr.makeSlice 22 (.int .i64 1024) (.int .i64 1024)).run Yba.prog w = .ok (.slice (some ⟨w.heap.size, 0, none⟩) 1024 1024) (w.alloc (.cells Z 42)))
    (hZs : Z.size = 1024) (hZ : ∀ j, j < 1024 → Z[j]? = some (.int .u64 0)) :
    Calls Yba.prog 3 #[.slice a0 len0 cap0, .bool true, .int .i64 a2, .int .i64 a3, .int .u8 a4] w fun e w' => e = .returned (.bool true) ∧ Below w.heap.size w w' := by
  have F := fit_any a2 a3 a4 w h1 h2 h3 h4 h5 h6
  have CP := fun q : Nat => copy_pre PP cap0 q Z hZs hZ
  clear hZs hZ
  go_enter Yba.func3, Yba.ntmps3
  go_wp2_with (first
    | (go_at_call 4; refine F.mono ?_; rintro e w1 ⟨rfl, o, m, q, rfl, hm, hom, hq⟩; obtain ⟨nn, w3, hcopy, C⟩ := CP q; have r6 := C.r6; have f6 := C.f6)
    | (go_at_call 5; refine (mark_pre PP C o m hm hom hq).mono ?_; rintro e w5 ⟨rfl, bel, W', M, hb⟩; have r6 := M.r6; have r7 := M.r7)
    | (go_at_call 6; refine (want_of PP cap0 true bel M hm hom hq hb).mono ?_; rintro e w6 ⟨rfl, rfl⟩))
  go_ret
  exact ⟨rfl, bel⟩
end Go.Proofs.Ybulkcymu.Blk
