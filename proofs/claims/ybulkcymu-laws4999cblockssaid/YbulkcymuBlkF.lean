import Derived.Test.YbulkcymuBlkE
namespace Go.Proofs.Ybulkcymu.Blk
open Go.RowKit
set_option linter.unusedVariables false

theorem info42 : (Yba.prog.info? 42).map (·.size) = some 1 := by kernel_rfl

/-- What the copy leaves. -/
structure Copied (w : World) (q len0 : Nat) (P : Nat → Nat) (w3 : World) : Prop where
  bel : Below w.heap.size w w3
  size : w3.heap.size = w.heap.size + 1 + 1
  r6 : w3.cell? ⟨w.heap.size, 6, none⟩ = some (.slice none 0 0)
  f6 : w3.frozen? ⟨w.heap.size, 6, none⟩ = false
  r7 : w3.cell? ⟨w.heap.size, 7, none⟩ = some (.int .u64 (q : Int))
  row : ∀ j, j < 1024 → w3.cell? ⟨w.heap.size + 1, j, none⟩ = some (.int .u64 ((if j < len0 then P j else 0 : Nat) : Int))
  fz : ∀ j, w3.frozen? ⟨w.heap.size + 1, j, none⟩ = false

theorem frozen_row {w : World} {b j : Nat} {c : Array Value} {t : TypeId} (h : w.heap[b]? = some (.cells c t (0, 0))) : w.frozen? ⟨b, j, none⟩ = false := by
  unfold World.frozen?
  simp only [h]
  simp

theorem copied_of {w w3 : World} {q len0 : Nat} {P : Nat → Nat} {R : Array Value} {Z : Array Value} (hs : w3.heap.size = w.heap.size + 1 + 1) (ho : w3.os = w.os) (ht : w3.tape = w.tape) (hp : w3.output = w.output)
    (hb : ∀ b, b ≠ w.heap.size + 1 → w3.heap[b]? = ((w.alloc (OB q)).alloc (.cells Z 42)).heap[b]?) (hr : w3.heap[w.heap.size + 1]? = some (.cells R 42 (0, 0)))
    (hR : ∀ j, j < 1024 → R[j]? = some (.int .u64 ((if j < len0 then P j else 0 : Nat) : Int))) : Copied w q len0 P w3 := by
  have hob : w3.heap[w.heap.size]? = some (OB q) := by
    rw [hb _ (by omega), Below.heap_alloc _ _ _ (by simp)]
    exact heap_alloc_new w _
  refine ⟨⟨ho, ht, hp, by omega, fun b h => ?_⟩, hs, ?_, ?_, ?_, fun j hj => ?_, fun j => frozen_row hr⟩
  · rw [hb _ (by omega), Below.heap_alloc _ _ _ (by simp; omega), Below.heap_alloc _ _ _ h]
  · rw [cell_of_row w3 _ 6 _ 37 (0, 0) hob]; rfl
  · exact frozen_row hob
  · rw [cell_of_row w3 _ 7 _ 37 (0, 0) hob]; rfl
  · rw [cell_of_row w3 _ j R 42 (0, 0) hr]; exact hR j hj

theorem copy_pre {w : World} {a0 : Option Addr} {pb po len0 : Nat} {P : Nat → Nat} (F : PF w a0 pb po len0 P) (cap0 q : Nat) (Z : Array Value) (hZs : Z.size = 1024) (hZ : ∀ j, j < 1024 → Z[j]? = some (.int .u64 0)) :
    ∃ (n : Int) (w3 : World), (∀ ty, (Builtin.copy_ #[22, 22] ty #[.slice (some ⟨w.heap.size + 1, 0, none⟩) 1024 1024, .slice a0 len0 cap0]).run Yba.prog ((w.alloc (OB q)).alloc (.cells Z 42)) = .ok (.int .i64 n) w3) ∧ Copied w q len0 P w3 := by
  have hg : ((w.alloc (OB q)).alloc (.cells Z 42)).heap[w.heap.size + 1]? = some (.cells Z 42 (0, 0)) := by
    have := heap_alloc_new (w.alloc (OB q)) (.cells Z 42)
    simpa using this
  by_cases h0 : len0 = 0
  · subst h0
    refine ⟨0, _, fun ty => run_copy_none (P := Yba.prog) _ 22 22 ty 42 _ _ 1024 1024 0 cap0 Yba.underlying22 info42 (by simp), copied_of (by simp) rfl rfl rfl (fun _ _ => rfl) hg (fun j hj => ?_)⟩
    rw [hZ j hj, if_neg (by omega)]
    rfl
  · obtain ⟨n, hn⟩ : ∃ n, n = min len0 1024 := ⟨_, rfl⟩
    have hpb := F.lt (by omega)
    obtain rfl := F.ha (by omega)
    have hlen : ((List.range n).map fun j => Value.int .u64 (P j : Int)).length = n := by simp
    have hrun := fun ty => run_copy_row (P := Yba.prog) ((w.alloc (OB q)).alloc (.cells Z 42)) 22 22 ty 42 (w.heap.size + 1) 0 1024 1024 ⟨pb, po, none⟩ len0 cap0 Z 42 ((List.range n).map fun j => Value.int .u64 (P j : Int)) Yba.underlying22 info42 hg (by rw [hlen]; exact hn) (fun j v hj => by
      have hjn : j < n := by
        have := (List.getElem?_eq_some_iff.1 hj).1
        simpa using this
      have hv : v = .int .u64 (P j : Int) := by
        rw [List.getElem?_map, List.getElem?_range hjn] at hj
        simpa using hj.symm
      rw [hv, Addr.add_lit, World.cell?_alloc_past _ _ _ (by simp; omega), World.cell?_alloc_past _ _ _ hpb]
      exact F.hp j (by omega)) (by rw [hlen]; omega) (fun v hv => by
      obtain ⟨j, _, rfl⟩ := List.mem_map.1 hv
      rfl)
    refine ⟨_, _, hrun, copied_of (by simp [World.setRow]) rfl rfl rfl (fun b hb => setRow_other _ _ b _ hb) (setRow_heap _ _ Z _ 42 _ hg) (fun j hj => ?_)⟩
    rw [hlen, Nat.zero_add, List.take_zero, List.nil_append, List.getElem?_toArray]
    by_cases hjn : j < n
    · rw [List.getElem?_append_left (by rw [hlen]; exact hjn), List.getElem?_map, List.getElem?_range hjn, if_pos (by omega)]
      rfl
    · rw [List.getElem?_append_right (by rw [hlen]; omega), hlen, List.getElem?_drop, show n + (j - n) = j by omega, Array.getElem?_toList, hZ j hj, if_neg (by omega)]
      rfl
end Go.Proofs.Ybulkcymu.Blk
