import Derived.Test.YbulkcymuDoorEq
import Derived.Deep.RegionWith
namespace Go.Proofs.YbulkcymuDoor.Rd
open Go.RowKit
set_option linter.unusedVariables false

/-- The search's state: the reader, the one-cell array, the boxed guard; all else as it was. -/
structure ERel (k : Cst) (w : World) (c : Int) (x : Array Value) (wr : World) : Prop where
  rs : RS k c wr
  row : wr.heap[w.heap.size + 1]? = some (.cells x 45 (0, 0))
  xs : x.size = 1
  g0 : wr.cell? ⟨w.heap.size, 0, none⟩ = some (.iface 24 (.pointer (some ⟨k.rb, 0, none⟩)))
  kept : ∀ b, b < w.heap.size → b ≠ k.rb → wr.heap[b]? = w.heap[b]?
  os : wr.os = w.os
  tape : wr.tape = w.tape
  output : wr.output = w.output
  size : wr.heap.size = w.heap.size + 2

theorem ERel.next {k : Cst} {w : World} {c : Int} {x y : Array Value} {wr w' : World} (h : ERel k w c x wr) (hrb : k.rb < w.heap.size) (hy : y.size = 1) (a : After k (w.heap.size + 1) c y 45 wr w') : ERel k w (wrap64 (c + 1)) y w' :=
  ⟨a.rs, a.row, hy, (World.cell?_of_block (w := wr) (a.only.block _ (by show w.heap.size ≠ k.rb; omega) (by show w.heap.size ≠ w.heap.size + 1; omega))).trans h.g0,
   fun b hb hn => (a.only.block b hn (by omega)).trans (h.kept b hb hn), a.only.os.trans h.os, a.only.tape.trans h.tape, a.only.output.trans h.output, a.only.size.trans h.size⟩

theorem RS.drew {k : Cst} {c : Int} {w : World} (h : RS k c w) : RS k c w.drew := ⟨h.r0, h.r1, h.r2, h.rf, h.hE, h.data⟩
theorem ERel.drew {k : Cst} {w : World} {c : Int} {x : Array Value} {wr : World} (h : ERel k w c x wr) : ERel k w c x wr.drew :=
  ⟨h.rs.drew, h.row, h.xs, h.g0, h.kept, h.os, h.tape, h.output, h.size⟩
theorem method_read (a : Addr) (w : World) : (method 171 24 (.pointer (some a)) "ReadAt").run Ybad.prog w = .ok (22, .pointer (some a)) w := by kernel_rfl

set_option maxHeartbeats 1000000 in
theorem end_any (k : Cst) (ok : k.Ok) (off : Nat) (size : Int) (what : ByteArray) (c : Int) (w : World) (h : RS k c w) (hrb : k.rb < w.heap.size) (hLo : k.L ≤ off) (hoff : off < 9223372036854775807) :
    Calls Ybad.prog 6 #[.agg #[.iface 24 (.pointer (some ⟨k.rb, 0, none⟩)), .int .i64 size, .string what], .int .i64 (off : Int)] w fun e w' => e = .returned (.tuple #[.int .i64 (k.L : Int), .nilIface]) ∧ ∃ c' x, ERel k w c' x w' := by
  have R0 : ERel k w c #[.int .u8 0] ((w.alloc (.cells #[.iface 24 (.pointer (some ⟨k.rb, 0, none⟩)), .int .i64 size, .string what] 33)).alloc (.cells #[.int .u8 0] 45)) := by
    have hs : ∀ o : Obj, ∀ o' : Obj, ∀ b, b < w.heap.size → ((w.alloc o).alloc o').heap[b]? = w.heap[b]? := fun o o' b hb => by
      rw [Below.heap_alloc _ _ _ (by simp; omega), Below.heap_alloc _ _ _ hb]
    have hcl : ∀ o : Obj, ∀ o' : Obj, ∀ b j, b < w.heap.size → ((w.alloc o).alloc o').cell? ⟨b, j, none⟩ = w.cell? ⟨b, j, none⟩ := fun o o' b j hb => World.cell?_of_block (w := w) (hs o o' b hb)
    have h0 := ok.rb0
    refine ⟨⟨(hcl _ _ _ _ hrb).trans h.r0, (hcl _ _ _ _ hrb).trans h.r1, (hcl _ _ _ _ hrb).trans h.r2, (World.frozen?_of_block (w := w) (hs _ _ _ hrb)).trans h.rf, (hcl _ _ _ _ (by omega)).trans h.hE, fun i hi => (hcl _ _ _ _ (by have := ok.dr (by omega); omega)).trans (h.data i hi)⟩,
      ?_, rfl, by simp [go_sem], fun b hb _ => hs _ _ b hb, rfl, rfl, rfl, by simp⟩
    have := heap_alloc_new (w.alloc (.cells #[.iface 24 (.pointer (some ⟨k.rb, 0, none⟩)), .int .i64 size, .string what] 33)) (.cells #[.int .u8 0] 45)
    simpa using this
  go_enter Ybad.func6, Ybad.ntmps6
  go_wp2
  go_loopw [6, 7] (fun hv pv wr => ∃ (a p : Nat) (c : Int) (x : Array Value), hv = .int .i64 (a : Int) ∧ pv = .int .i64 (p : Int) ∧ a ≤ k.L ∧ k.L < p ∧ p ≤ off + 1 ∧ ERel k w c x wr) (fun hv pv _ => (intOf pv - intOf hv).toNat)
  case atStart => exact ⟨0, off + 1, c, _, rfl, by go_num, Nat.zero_le _, by omega, Nat.le_refl _, R0⟩
  case round =>
    obtain ⟨a, p, c', x, rfl, rfl, ha, hp, hpo, E⟩ := hrel
    by_cases hd : 1 < p - a
    · obtain ⟨o, ho⟩ : ∃ o : Nat, (a : Int) + ((p : Int) - (a : Int)) / 2 = (o : Int) + 1 := ⟨a + (p - a) / 2 - 1, by omega⟩
      have ho1 : a ≤ o := by omega
      have ho2 : o + 1 < p := by omega
      have g0 := E.g0
      have hwo : IntKind.i64.wrap (o : Int) = (o : Int) := by rw [IntKind.wrap_i64]; omega
      have hmt := method_read ⟨k.rb, 0, none⟩
      by_cases hoL : o < k.L
      · have hcall := read_in (pb := w.heap.size + 1) (P := 1) (cp := 1) (n := 1) ok E.drew.rs (by omega) (by omega) E.drew.row E.xs hoL (by omega) (by omega) (Or.inr rfl)
        rw [if_neg (by omega)] at hcall
        go_wp2
        go_region_with (go_at_call 22; refine hcall.mono ?_; rintro e w1 ⟨rfl, A⟩)
        go_wp2
        go_roundw
        case rel => exact ⟨o + 1, p, _, _, by go_num, rfl, by omega, hp, hpo, E.drew.next hrb (by simp [part_length (show o + 1 ≤ k.zs.length by rw [ok.zl]; omega), E.xs]) A⟩
        case measure => simp [intOf]; omega
      · have hcall := read_past (pb := w.heap.size + 1) (P := 1) (cp := 1) (off := (o : Int)) ok E.drew.rs (by omega) E.drew.row (by omega)
        go_wp2
        go_region_with (go_at_call 22; refine hcall.mono ?_; rintro e w1 ⟨rfl, A⟩)
        have hE1 := A.rs.hE
        have hq := neq_same k.ea
        go_wp2
        go_roundw
        case rel => exact ⟨a, o + 1, _, _, rfl, by go_num, ha, by omega, by omega, E.drew.next hrb E.xs A⟩
        case measure => simp [intOf]; omega
    · have hd2 : p = k.L + 1 := by omega
      have hd3 : a = k.L := by omega
      subst hd3
      subst hd2
      go_wp2
      go_ret2
      exact ⟨rfl, _, _, E⟩
end Go.Proofs.YbulkcymuDoor.Rd
