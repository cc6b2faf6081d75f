import Derived.Test.YbulkcymuDoorSt
import Derived.LaidEql
namespace Go.Proofs.YbulkcymuDoor.Rd
open Go.RowKit
set_option linter.unusedVariables false

theorem comp40 : (Ybad.prog.info? 40).map (·.comparable) = some true := by kernel_rfl
theorem size42 : (Ybad.prog.info? 42).map (·.size) = some 1 := by kernel_rfl

theorem eql_same (a : Addr) (w : World) : (binOp .eql 26 (.iface 40 (.pointer (some a))) (.iface 40 (.pointer (some a)))).run Ybad.prog w = .ok (.bool true) w := by
  obtain ⟨i, hi, hc⟩ := Option.map_eq_some_iff.1 comp40
  obtain ⟨j, hj, hs⟩ := Option.map_eq_some_iff.1 size42
  exact run_eql_iface_ptr_same w a Ybad.underlying26 Ybad.underlying40 hi hc hj
theorem neq_same (a : Addr) (w : World) : (binOp .neq 26 (.iface 40 (.pointer (some a))) (.iface 40 (.pointer (some a)))).run Ybad.prog w = .ok (.bool false) w := by
  obtain ⟨i, hi, hc⟩ := Option.map_eq_some_iff.1 comp40
  obtain ⟨j, hj, hs⟩ := Option.map_eq_some_iff.1 size42
  simp only [binOp]
  simp [Op.equal, Op.maxDepth, run_equalIn_iface_ptr_same w 9998 a Ybad.underlying26 Ybad.underlying40 hi hc hj]
theorem neq_other {a b : Addr} {ca cb : Array Value} {ta tb : TypeId} (w : World) (hne : a ≠ b) (ha : w.heap[a.block]? = some (.cells ca ta (0, 0))) (hb : w.heap[b.block]? = some (.cells cb tb (0, 0))) :
    (binOp .neq 26 (.iface 40 (.pointer (some a))) (.iface 40 (.pointer (some b)))).run Ybad.prog w = .ok (.bool true) w := by
  obtain ⟨i, hi, hc⟩ := Option.map_eq_some_iff.1 comp40
  obtain ⟨j, hj, hs⟩ := Option.map_eq_some_iff.1 size42
  simp only [binOp]
  simp [Op.equal, Op.maxDepth, run_equalIn_iface_ptr_other w 9998 Ybad.underlying26 Ybad.underlying40 hi hc hj (by omega) hne ha hb]
end Go.Proofs.YbulkcymuDoor.Rd
