import Derived.Test.YbulkcymuDoorRows
import Derived.WalkKit
import Derived.WalkSpells
import Derived.Deep.QuietTactic
import Derived.BigQuiet
import Derived.Laws.CopyOwn
namespace Go.Proofs.YbulkcymuDoor.Rd
open Go.RowKit
set_option linter.unusedVariables false

theorem info5 : (Ybad.prog.info? 5).map (·.size) = some 1 := by kernel_rfl

set_option maxHeartbeats 400000 in
theorem rd_neg (rb eb : Nat) (ao pa : Option Addr) (L cap P cp : Nat) (c off : Int) (w : World)
    (r0 : w.cell? ⟨rb, 0, none⟩ = some (.slice ao L cap)) (r1 : w.cell? ⟨rb, 1, none⟩ = some (.iface 40 (.pointer (some ⟨eb, 0, none⟩)))) (r2 : w.cell? ⟨rb, 2, none⟩ = some (.int .i64 c))
    (rf : w.frozen? ⟨rb, 2, none⟩ = false) (h : off < 0) :
    Calls Ybad.prog 22 #[.pointer (some ⟨rb, 0, none⟩), .slice pa P cp, .int .i64 off] w fun e w' => e = .returned (.tuple #[.int .i64 0, .iface 40 (.pointer (some ⟨eb, 0, none⟩))]) ∧
      ∃ k, w' = (w.setCell ⟨rb, 2, none⟩ (.int .i64 (wrap64 (c + 1)))).drewN k := by
  go_enter Ybad.func22, Ybad.ntmps22
  go_wp2
  go_quiet (fail)
  go_wp2
  go_ret2
  exact ⟨rfl, _, rfl⟩

set_option maxHeartbeats 400000 in
theorem rd_past (rb eb : Nat) (ao pa : Option Addr) (ea : Addr) (L cap P cp : Nat) (c off : Int) (w : World) (hL : L ≤ 1024) (hrb : rb ≠ 0)
    (r0 : w.cell? ⟨rb, 0, none⟩ = some (.slice ao L cap)) (r1 : w.cell? ⟨rb, 1, none⟩ = some (.iface 40 (.pointer (some ⟨eb, 0, none⟩)))) (r2 : w.cell? ⟨rb, 2, none⟩ = some (.int .i64 c))
    (rf : w.frozen? ⟨rb, 2, none⟩ = false) (hE : w.cell? ⟨0, 0, none⟩ = some (.iface 40 (.pointer (some ea)))) (h : (L : Int) ≤ off) :
    Calls Ybad.prog 22 #[.pointer (some ⟨rb, 0, none⟩), .slice pa P cp, .int .i64 off] w fun e w' => e = .returned (.tuple #[.int .i64 0, .iface 40 (.pointer (some ea))]) ∧
      ∃ k, w' = (w.setCell ⟨rb, 2, none⟩ (.int .i64 (wrap64 (c + 1)))).drewN k := by
  go_enter Ybad.func22, Ybad.ntmps22
  go_wp2
  go_quiet (fail)
  go_wp2
  go_ret2
  exact ⟨rfl, _, rfl⟩

set_option maxHeartbeats 400000 in
theorem rd_in (rb eb pb db doff : Nat) (ea : Addr) (L cap P cp o n : Nat) (c : Int) (cur : Array Value) (t : TypeId) (cs : List Value) (w : World) (hL : L ≤ 1024) (hP : P ≤ 1024) (hrb : rb ≠ 0) (hpr : pb ≠ rb) (hp0 : pb ≠ 0) (hdr : ¬ (db = rb)) (hlc : L ≤ cap)
    (r0 : w.cell? ⟨rb, 0, none⟩ = some (.slice (some ⟨db, doff, none⟩) L cap)) (r2 : w.cell? ⟨rb, 2, none⟩ = some (.int .i64 c))
    (rf : w.frozen? ⟨rb, 2, none⟩ = false) (hE : w.cell? ⟨0, 0, none⟩ = some (.iface 40 (.pointer (some ea)))) (h : o < L)
    (hg : w.heap[pb]? = some (.cells cur t (0, 0))) (hcur : cur.size = P) (hcs : cs.length = n) (hn1 : n ≤ L - o) (hn2 : n ≤ P) (hn3 : n = L - o ∨ n = P)
    (hsrc : ∀ j v, cs[j]? = some v → w.cell? ⟨db, doff + o + j, none⟩ = some v) (h1 : ∀ v ∈ cs, v.oneCell' = true) :
    Calls Ybad.prog 22 #[.pointer (some ⟨rb, 0, none⟩), .slice (some ⟨pb, 0, none⟩) P cp, .int .i64 (o : Int)] w fun e w' => e = .returned (.tuple #[.int .i64 (n : Int), if n < P then .iface 40 (.pointer (some ea)) else .nilIface]) ∧
      ∃ k, w' = ((w.setCell ⟨rb, 2, none⟩ (.int .i64 (wrap64 (c + 1)))).setRow pb (cs ++ cur.toList.drop n).toArray).drewN k := by
  have hg' : (w.setCell ⟨rb, 2, none⟩ (.int .i64 (wrap64 (c + 1)))).heap[pb]? = some (.cells cur t (0, 0)) := (Below.heap_setCell _ _ _ _ hpr).trans hg
  have hsrc' : ∀ j v, cs[j]? = some v → (w.setCell ⟨rb, 2, none⟩ (.int .i64 (wrap64 (c + 1)))).cell? ((⟨db, doff + o, none⟩ : Addr).add j) = some v := fun j v hj => by
    rw [Addr.add_lit, World.cell?_setCell_other _ ⟨rb, 2, none⟩ _ _ (fun e => hdr (congrArg Addr.block e).symm)]
    exact hsrc j v hj
  have hrun := run_copy_row (P := Ybad.prog) (w.setCell ⟨rb, 2, none⟩ (.int .i64 (wrap64 (c + 1)))) 22 22 3 5 pb 0 P cp ⟨db, doff + o, none⟩ (L - o) (cap - o) cur t cs Ybad.underlying22 info5 hg' (by rw [hcs]; show n = min (L - o) P; omega) hsrc' (by omega) h1
  rw [hcs, Nat.zero_add] at hrun
  simp only [List.take_zero, List.nil_append] at hrun
  obtain ⟨new, hnew⟩ : ∃ new, new = (cs ++ cur.toList.drop n).toArray := ⟨_, rfl⟩
  rw [← hnew] at hrun ⊢
  have hE2 : ((w.setCell ⟨rb, 2, none⟩ (.int .i64 (wrap64 (c + 1)))).setRow pb new).cell? ⟨0, 0, none⟩ = some (.iface 40 (.pointer (some ea))) := by
    rw [World.cell?_of_block (w := w.setCell ⟨rb, 2, none⟩ (.int .i64 (wrap64 (c + 1)))) (setRow_other _ pb 0 new (Ne.symm hp0)), World.cell?_setCell_other _ ⟨rb, 2, none⟩ ⟨0, 0, none⟩ _ (fun e => hrb (congrArg Addr.block e))]
    exact hE
  have hco : ¬ cap = o := by omega
  have hgi : goInt n = .int .i64 (n : Int) := rfl
  rw [hgi] at hrun
  clear hg hg' hsrc hsrc' hcur hcs h1 hnew hgi
  by_cases hs : n < P
  · have hs' : (n : Int) < (P : Int) := by omega
    rw [if_pos hs]
    go_enter Ybad.func22, Ybad.ntmps22
    go_wp2
    go_quiet (fail)
    go_wp2
    go_ret2
    exact ⟨rfl, _, rfl⟩
  · have hs' : ¬ (n : Int) < (P : Int) := by omega
    rw [if_neg hs]
    go_enter Ybad.func22, Ybad.ntmps22
    go_wp2
    go_ret2
    exact ⟨rfl, 0, rfl⟩
end Go.Proofs.YbulkcymuDoor.Rd
