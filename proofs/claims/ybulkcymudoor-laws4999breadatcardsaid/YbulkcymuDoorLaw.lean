import Derived.Test.YbulkcymuDoorGrd
namespace Go.Proofs.YbulkcymuDoor.Rd
open Go.RowKit
set_option linter.unusedVariables false

theorem infoB : (Ybad.prog.info? 5).map (fun i => (i.zero, i.size, i.bytes)) = some (some (.int .u8 0), 1, 1) := by kernel_rfl
theorem make_p (P : Nat) (h : P ≤ 1024) (w : World) : (Instr.makeSlice 22 (.int .i64 (P : Int)) (.int .i64 (P : Int))).run Ybad.prog w = .ok (.slice (some ⟨w.heap.size, 0, none⟩) P P) (w.alloc (.cells (madeCells #[.int .u8 0] P) 5)) := by
  obtain ⟨i0, hi, hz0, hz1, hz2⟩ := info_parts infoB
  have := run_make (P := Ybad.prog) w 22 5 i0 (.int .u8 0) Ybad.underlying22 hi hz0 .i64 .i64 P P (by omega) (by omega) (by rw [hz2]; omega) (by omega)
  rw [hz1] at this
  simpa [Value.cells] using this

/-- The world at the guarded read. -/
abbrev W4 (w : World) (ao : Option Addr) (L cap : Nat) (size : Int) (what : ByteArray) (cur : Array Value) : World :=
  (((w.alloc (.cells #[.string ⟨#[110, 101, 103, 97, 116, 105, 118, 101, 32, 111, 102, 102, 115, 101, 116]⟩] 42)).alloc
    (.cells #[.slice ao L cap, .iface 40 (.pointer (some ⟨w.heap.size, 0, none⟩)), .int .i64 0] 29)).alloc
    (.cells #[.iface 24 (.pointer (some ⟨w.heap.size + 1, 0, none⟩)), .int .i64 size, .string what] 33)).alloc (.cells cur 5)

theorem W4_old (w : World) (ao : Option Addr) (L cap : Nat) (size : Int) (what : ByteArray) (cur : Array Value) (b : Nat) (hb : b < w.heap.size) : (W4 w ao L cap size what cur).heap[b]? = w.heap[b]? := by
  unfold W4
  rw [Below.heap_alloc _ _ _ (by simp; omega), Below.heap_alloc _ _ _ (by simp; omega), Below.heap_alloc _ _ _ (by simp; omega), Below.heap_alloc _ _ _ hb]

/-- What the law's arguments and io.EOF are. -/
structure LH (w : World) (ao : Option Addr) (db doff L cap : Nat) (ea : Addr) (zs : List Int) : Prop where
  hL : L ≤ 1024
  lc : L ≤ cap
  dr : 0 < L → db < w.heap.size
  hao : 0 < L → ao = some ⟨db, doff, none⟩
  zl : zs.length = L
  hE : w.cell? ⟨0, 0, none⟩ = some (.iface 40 (.pointer (some ea)))
  e0 : 0 < w.heap.size
  ea : ea.block < w.heap.size
  data : ∀ i, i < L → w.cell? ⟨db, doff + i, none⟩ = some (.int .u8 (zs.getD i 0))

abbrev cst (w : World) (ao : Option Addr) (db doff L cap : Nat) (ea : Addr) (zs : List Int) : Cst := { rb := w.heap.size + 1, eb := w.heap.size, db := db, doff := doff, L := L, cap := cap, ea := ea, ao := ao, zs := zs }

theorem gh {w : World} {ao : Option Addr} {db doff L cap : Nat} {ea : Addr} {zs : List Int} (h : LH w ao db doff L cap ea zs) (size : Int) (what : ByteArray) (cur : Array Value) (P : Nat) (hc : cur.size = P) (hP : P ≤ 1024) :
    GH (cst w ao db doff L cap ea zs) (w.heap.size + 1 + 1 + 1) P cur (W4 w ao L cap size what cur) := by
  have h0 := h.e0
  have hcl : ∀ b j, b < w.heap.size → (W4 w ao L cap size what cur).cell? ⟨b, j, none⟩ = w.cell? ⟨b, j, none⟩ := fun b j hb => World.cell?_of_block (w := w) (W4_old w ao L cap size what cur b hb)
  refine ⟨⟨h.hL, h.lc, by show w.heap.size + 1 ≠ 0; omega, fun hl => by have := h.dr hl; show db < w.heap.size + 1; omega, h.hao, h.zl⟩, ⟨?_, ?_, ?_, ?_, (hcl _ _ h0).trans h.hE, fun i hi => ?_⟩, by show w.heap.size + 1 < w.heap.size + 1 + 1 + 1; omega, by simp, ?_, hc, hP⟩
  · simp [go_sem]
  · simp [go_sem]
  · simp [go_sem]
  · simp [go_sem]
  · have hi' : i < L := hi
    exact (hcl _ _ (h.dr (by omega))).trans (h.data i hi)
  · have := heap_alloc_new (((w.alloc (.cells #[.string ⟨#[110, 101, 103, 97, 116, 105, 118, 101, 32, 111, 102, 102, 115, 101, 116]⟩] 42)).alloc (.cells #[.slice ao L cap, .iface 40 (.pointer (some ⟨w.heap.size, 0, none⟩)), .int .i64 0] 29)).alloc (.cells #[.iface 24 (.pointer (some ⟨w.heap.size + 1, 0, none⟩)), .int .i64 size, .string what] 33)) (.cells cur 5)
    simpa using this

theorem law_below {w w5 : World} {ao : Option Addr} {db doff L cap : Nat} {ea : Addr} {zs : List Int} {size c : Int} {what : ByteArray} {cur new : Array Value} (G : GP (cst w ao db doff L cap ea zs) (w.heap.size + 1 + 1 + 1) c new (W4 w ao L cap size what cur) w5) : Below w.heap.size w w5 := by
  have hs := G.size
  simp at hs
  refine ⟨G.os, G.tape, G.output, by omega, fun b hb => ?_⟩
  exact (G.kept b (by simp; omega) (by show b ≠ w.heap.size + 1; omega) (by omega)).trans (W4_old w ao L cap size what cur b hb)

set_option maxRecDepth 100000 in
set_option maxHeartbeats 1000000 in
theorem law_neg (ao : Option Addr) (db doff L cap P : Nat) (ea : Addr) (zs : List Int) (cur : Array Value) (size off a3 : Int) (what : ByteArray) (w : World) (h : LH w ao db doff L cap ea zs) (hP : a3 % 300 = (P : Int)) (h3 : 0 ≤ a3) (hP2 : P ≤ 300) (hc : cur.size = P)
    (hmk : ∀ w, (Instr.makeSlice 22 (.int .i64 (P : Int)) (.int .i64 (P : Int))).run Ybad.prog w = .ok (.slice (some ⟨w.heap.size, 0, none⟩) P P) (w.alloc (.cells cur 5))) {cb : Array Value} {tb : TypeId} (hbe : w.heap[ea.block]? = some (.cells cb tb (0, 0))) (ho : off < 0) :
    Calls Ybad.prog 3 #[.slice ao L cap, .int .i64 size, .int .i64 off, .int .u16 a3, .string what] w fun e w' => e = .returned (.bool true) ∧ Below w.heap.size w w' := by
  have hLL := h.hL
  have g0 : ¬ (1024 : Int) < (L : Int) := by omega
  have hea := h.ea
  have hcall : Calls Ybad.prog 5 #[.agg #[.iface 24 (.pointer (some ⟨w.heap.size + 1, 0, none⟩)), .int .i64 size, .string what], .slice (some ⟨w.heap.size + 1 + 1 + 1, 0, none⟩) P P, .int .i64 off] (W4 w ao L cap size what cur) fun e w' =>
      e = .returned (.tuple #[.int .i64 0, .iface 40 (.pointer (some ⟨w.heap.size, 0, none⟩))]) ∧ GP (cst w ao db doff L cap ea zs) (w.heap.size + 1 + 1 + 1) 1 cur (W4 w ao L cap size what cur) w' :=
    g_neg (gh h size what cur P hc (by omega)) off ho (fun e => by have := congrArg Addr.block e; simp at this; omega) (by simp; omega) (by simp; omega) ⟨by show ea.block ≠ w.heap.size + 1; omega, by show ea.block ≠ _; omega⟩ ⟨by show w.heap.size ≠ w.heap.size + 1; omega, by show w.heap.size ≠ w.heap.size + 1 + 1 + 1; omega⟩
      (ca := #[.string ⟨#[110, 101, 103, 97, 116, 105, 118, 101, 32, 111, 102, 102, 115, 101, 116]⟩]) (ta := 42) (by
        show (W4 w ao L cap size what cur).heap[w.heap.size]? = _
        unfold W4
        rw [Below.heap_alloc _ _ _ (by simp; omega), Below.heap_alloc _ _ _ (by simp; omega), Below.heap_alloc _ _ _ (by simp)]
        exact heap_alloc_new w _) ((W4_old w ao L cap size what cur _ hea).trans hbe)
  have hq := eql_same ⟨w.heap.size, 0, none⟩
  clear hbe
  go_enter Ybad.func3, Ybad.ntmps3
  go_wp2_with (first
    | (go_at_call 4; go_in)
    | (go_at_call 5; refine hcall.mono ?_; rintro e w5 ⟨rfl, G⟩; have r1 : w5.cell? ⟨w.heap.size + 1, 1, none⟩ = some (.iface 40 (.pointer (some ⟨w.heap.size, 0, none⟩))) := G.rs.r1; have r2 : w5.cell? ⟨w.heap.size + 1, 2, none⟩ = some (.int .i64 1) := G.rs.r2))
  go_ret
  exact ⟨rfl, law_below G⟩

set_option maxRecDepth 100000 in
set_option maxHeartbeats 1000000 in
theorem law_past (ao : Option Addr) (db doff L cap P : Nat) (ea : Addr) (zs : List Int) (cur : Array Value) (size off a3 : Int) (what : ByteArray) (w : World) (h : LH w ao db doff L cap ea zs) (hP : a3 % 300 = (P : Int)) (h3 : 0 ≤ a3) (hP2 : P ≤ 300) (hc : cur.size = P) (hz : ∀ i, i < P → cur[i]? = some (.int .u8 0))
    (hmk : ∀ w, (Instr.makeSlice 22 (.int .i64 (P : Int)) (.int .i64 (P : Int))).run Ybad.prog w = .ok (.slice (some ⟨w.heap.size, 0, none⟩) P P) (w.alloc (.cells cur 5))) (ho : (L : Int) ≤ off) (hs : size ≤ off) (ho2 : off ≤ 9223372036854775807) :
    Calls Ybad.prog 3 #[.slice ao L cap, .int .i64 size, .int .i64 off, .int .u16 a3, .string what] w fun e w' => e = .returned (.bool true) ∧ Below w.heap.size w w' := by
  have hLL := h.hL
  have g0 : ¬ (1024 : Int) < (L : Int) := by omega
  have hcall : Calls Ybad.prog 5 #[.agg #[.iface 24 (.pointer (some ⟨w.heap.size + 1, 0, none⟩)), .int .i64 size, .string what], .slice (some ⟨w.heap.size + 1 + 1 + 1, 0, none⟩) P P, .int .i64 off] (W4 w ao L cap size what cur) fun e w' =>
      e = .returned (.tuple #[.int .i64 0, .iface 40 (.pointer (some ea))]) ∧ GP (cst w ao db doff L cap ea zs) (w.heap.size + 1 + 1 + 1) 1 cur (W4 w ao L cap size what cur) w' :=
    g_past (gh h size what cur P hc (by omega)) off ho hs ho2
  have hq := eql_same ea
  have HZ : Hid (∀ i, i < P → cur[i]? = some (.int .u8 0)) := hz
  have hon : ¬ off < 0 := by omega
  clear hz hc
  go_enter Ybad.func3, Ybad.ntmps3
  go_wp2_with (first
    | (go_at_call 4; go_in)
    | (go_at_call 5; refine hcall.mono ?_; rintro e w5 ⟨rfl, G⟩; have r2 : w5.cell? ⟨w.heap.size + 1, 2, none⟩ = some (.int .i64 1) := G.rs.r2; have rE : w5.cell? ⟨0, 0, none⟩ = some (.iface 40 (.pointer (some ea))) := G.rs.hE))
  have hrow : ∀ i, w5.cell? ⟨w.heap.size + 1 + 1 + 1, i, none⟩ = cur[i]? := fun i => cell_of_row w5 _ i cur 5 (0, 0) G.row
  have HR : Hid (∀ i, w5.cell? ⟨w.heap.size + 1 + 1 + 1, i, none⟩ = cur[i]?) := hrow
  clear hrow hcall hmk
  go_loop [18] (fun i => ∃ k : Nat, k ≤ P ∧ i = .int .i64 (k : Int)) (fun i => P - (intOf i).toNat)
  case atStart => exact ⟨0, Nat.zero_le _, rfl⟩
  case round =>
    obtain ⟨k, hk, rfl⟩ := hrel
    by_cases hkP : k < P
    · have hck := (HR.out k).trans (HZ.out k hkP)
      go_wp2
      go_round
      case rel => exact ⟨k + 1, by omega, by go_num⟩
      case measure => simp [intOf]; omega
    · go_wp2
      go_ret
      exact ⟨rfl, law_below G⟩
end Go.Proofs.YbulkcymuDoor.Rd
