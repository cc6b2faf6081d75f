import Derived.Test.YbulkcymuDoorLaw
namespace Go.Proofs.YbulkcymuDoor.Rd
open Go.RowKit
set_option linter.unusedVariables false

theorem cut_call {w : World} {ao : Option Addr} {db doff L cap : Nat} {ea : Addr} {zs : List Int} (h : LH w ao db doff L cap ea zs) (size : Int) (what : ByteArray) (cur : Array Value) (P : Nat) (hc : cur.size = P) (hP : P ≤ 1024) (off : Nat) (ho : L ≤ off) (hs : (off : Int) < size) (hs2 : size ≤ 9223372036854775807) :
    Calls Ybad.prog 5 #[.agg #[.iface 24 (.pointer (some ⟨w.heap.size + 1, 0, none⟩)), .int .i64 size, .string what], .slice (some ⟨w.heap.size + 1 + 1 + 1, 0, none⟩) P P, .int .i64 (off : Int)] (W4 w ao L cap size what cur) fun e w' =>
      e = .returned (.tuple #[.int .i64 0, .iface 37 (.agg #[.string what, .int .i64 (L : Int), .int .i64 size])]) ∧ ∃ c, GP (cst w ao db doff L cap ea zs) (w.heap.size + 1 + 1 + 1) c cur (W4 w ao L cap size what cur) w' := by
  by_cases h0 : off = 0
  · subst h0
    have hL : L = 0 := by omega
    have := g_cut0 (cp := P) (size := size) (what := what) (gh h size what cur P hc hP) hL hs
    rw [hL] at this ⊢
    exact this
  · exact g_cut (gh h size what cur P hc hP) off ho (by omega) hs hs2

theorem assert_cut (v : Value) (w : World) : (Instr.typeAssert (.iface 37 v) 26 37 true).run Ybad.prog w = .ok (.tuple #[v, .bool true]) w := by kernel_rfl

set_option maxRecDepth 100000 in
set_option maxHeartbeats 1000000 in
theorem law_cut (ao : Option Addr) (db doff L cap P : Nat) (ea : Addr) (zs : List Int) (cur : Array Value) (size a3 : Int) (off : Nat) (what : ByteArray) (w : World) (h : LH w ao db doff L cap ea zs) (hP : a3 % 300 = (P : Int)) (h3 : 0 ≤ a3) (hP2 : P ≤ 300) (hc : cur.size = P) (hz : ∀ i, i < P → cur[i]? = some (.int .u8 0))
    (hmk : ∀ w, (Instr.makeSlice 22 (.int .i64 (P : Int)) (.int .i64 (P : Int))).run Ybad.prog w = .ok (.slice (some ⟨w.heap.size, 0, none⟩) P P) (w.alloc (.cells cur 5))) (ho : L ≤ off) (hs : (off : Int) < size) (hs2 : size ≤ 9223372036854775807) :
    Calls Ybad.prog 3 #[.slice ao L cap, .int .i64 size, .int .i64 (off : Int), .int .u16 a3, .string what] w fun e w' => e = .returned (.bool true) ∧ Below w.heap.size w w' := by
  have hLL := h.hL
  have g0 : ¬ (1024 : Int) < (L : Int) := by omega
  have hcall := cut_call h size what cur P hc (by omega) off ho hs hs2
  have HZ : Hid (∀ i, i < P → cur[i]? = some (.int .u8 0)) := hz
  clear hz hc
  go_enter Ybad.func3, Ybad.ntmps3
  go_wp2_with (first
    | (go_at_call 4; go_in)
    | (go_at_call 5; refine hcall.mono ?_; rintro e w5 ⟨rfl, c, G⟩))
  have hrow : ∀ i, w5.cell? ⟨w.heap.size + 1 + 1 + 1, i, none⟩ = cur[i]? := fun i => cell_of_row w5 _ i cur 5 (0, 0) G.row
  have HR : Hid (∀ i, w5.cell? ⟨w.heap.size + 1 + 1 + 1, i, none⟩ = cur[i]?) := hrow
  clear hrow hcall hmk
  go_loop [18] (fun i => ∃ k : Nat, k ≤ P ∧ i = .int .i64 (k : Int)) (fun i => P - (intOf i).toNat)
  case atStart => exact ⟨0, Nat.zero_le _, rfl⟩
  case round =>
    obtain ⟨k, hk, rfl⟩ := hrel
    by_cases hkP : k < P
    · have hck := (HR.out k).trans (HZ.out k hkP)
      go_wp2
      go_round
      case rel => exact ⟨k + 1, by omega, by go_num⟩
      case measure => simp [intOf]; omega
    · have hta := assert_cut
      go_wp2
      go_ret
      exact ⟨rfl, (law_below G).alloc (law_below G).size _⟩
end Go.Proofs.YbulkcymuDoor.Rd
