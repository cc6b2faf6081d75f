import Derived.Test.YbulkcymuDoorEnd
namespace Go.Proofs.YbulkcymuDoor.Rd
open Go.RowKit
set_option linter.unusedVariables false

/-- What (guarded).ReadAt leaves. -/
structure GP (k : Cst) (pb : Nat) (c : Int) (new : Array Value) (w w' : World) : Prop where
  rs : RS k c w'
  row : w'.heap[pb]? = some (.cells new 5 (0, 0))
  kept : ∀ b, b < w.heap.size → b ≠ k.rb → b ≠ pb → w'.heap[b]? = w.heap[b]?
  os : w'.os = w.os
  tape : w'.tape = w.tape
  output : w'.output = w.output
  size : w.heap.size ≤ w'.heap.size

theorem RS.alloc {k : Cst} {c : Int} {w : World} (ok : k.Ok) (h : RS k c w) (hrb : k.rb < w.heap.size) (o : Obj) : RS k c (w.alloc o) := by
  have hcl : ∀ b j, b < w.heap.size → (w.alloc o).cell? ⟨b, j, none⟩ = w.cell? ⟨b, j, none⟩ := fun b j hb => World.cell?_of_block (w := w) (Below.heap_alloc _ _ _ hb)
  have h0 := ok.rb0
  exact ⟨(hcl _ _ hrb).trans h.r0, (hcl _ _ hrb).trans h.r1, (hcl _ _ hrb).trans h.r2, (World.frozen?_of_block (w := w) (Below.heap_alloc _ _ _ hrb)).trans h.rf, (hcl _ _ (by omega)).trans h.hE, fun i hi => (hcl _ _ (by have := ok.dr (by omega); omega)).trans (h.data i hi)⟩
theorem GP.of {k : Cst} {pb : Nat} {c : Int} {new : Array Value} {w w' : World} {o : Obj} (a : After k pb c new 5 (w.alloc o) w') : GP k pb (wrap64 (c + 1)) new w w' :=
  ⟨a.rs, a.row, fun b hb h1 h2 => (a.only.block b h1 h2).trans (Below.heap_alloc _ _ _ hb), a.only.os, a.only.tape, a.only.output, by rw [a.only.size]; simp⟩
/-- The box's cells behind the read. -/
theorem box_cell {k : Cst} {pb : Nat} {c : Int} {new : Array Value} {w w' : World} {cs : Array Value} (hrb : k.rb < w.heap.size) (hpb : pb < w.heap.size) (a : After k pb c new 5 (w.alloc (.cells cs 33)) w') (j : Nat) : w'.cell? ⟨w.heap.size, j, none⟩ = cs[j]? := by
  rw [World.cell?_of_block (w := w.alloc (.cells cs 33)) (a.only.block _ (by show w.heap.size ≠ k.rb; omega) (by show w.heap.size ≠ pb; omega)), World.cell?_alloc_at _ _ _ _ rfl]

/-- Where the guarded read begins. -/
structure GH (k : Cst) (pb P : Nat) (cur : Array Value) (w : World) : Prop where
  ok : k.Ok
  h : RS k 0 w
  hrb : k.rb < pb
  hpb : pb < w.heap.size
  hg : w.heap[pb]? = some (.cells cur 5 (0, 0))
  hcur : cur.size = P
  hP : P ≤ 1024

theorem wrap01 : wrap64 (0 + 1) = 1 := by simp [wrap64]

set_option maxHeartbeats 1000000 in
theorem g_neg {k : Cst} {pb P cp : Nat} {size : Int} {what : ByteArray} {cur : Array Value} {w : World} (H : GH k pb P cur w) (off : Int) (ho : off < 0) {ca cb : Array Value} {ta tb : TypeId} (hne : (⟨k.eb, 0, none⟩ : Addr) ≠ k.ea) (heb : k.eb < w.heap.size) (hea : k.ea.block < w.heap.size) (hea2 : k.ea.block ≠ k.rb ∧ k.ea.block ≠ pb) (heb2 : k.eb ≠ k.rb ∧ k.eb ≠ pb)
    (hbb : w.heap[k.eb]? = some (.cells ca ta (0, 0))) (hbe : w.heap[k.ea.block]? = some (.cells cb tb (0, 0))) :
    Calls Ybad.prog 5 #[.agg #[.iface 24 (.pointer (some ⟨k.rb, 0, none⟩)), .int .i64 size, .string what], .slice (some ⟨pb, 0, none⟩) P cp, .int .i64 off] w fun e w' => e = .returned (.tuple #[.int .i64 0, .iface 40 (.pointer (some ⟨k.eb, 0, none⟩))]) ∧ GP k pb 1 cur w w' := by
  obtain ⟨ok, h, hrb, hpb, hg, hcur, hP⟩ := H
  have hcall := read_neg (k := k) (pb := pb) (P := P) (cp := cp) (c := 0) (off := off) (cur := cur) (t := 5) (w := w.alloc (.cells #[.iface 24 (.pointer (some ⟨k.rb, 0, none⟩)), .int .i64 size, .string what] 33)) ok (h.alloc ok (by omega) _) hrb ((Below.heap_alloc _ _ _ hpb).trans hg) ho
  have hq : Hid (∀ w1, After k pb 0 cur 5 (w.alloc (.cells #[.iface 24 (.pointer (some ⟨k.rb, 0, none⟩)), .int .i64 size, .string what] 33)) w1 → (binOp .neq 26 (.iface 40 (.pointer (some ⟨k.eb, 0, none⟩))) (.iface 40 (.pointer (some k.ea)))).run Ybad.prog w1 = .ok (.bool true) w1) := fun w1 A =>
    neq_other w1 hne (((A.only.block _ heb2.1 heb2.2).trans (Below.heap_alloc _ _ _ heb)).trans hbb) (((A.only.block _ hea2.1 hea2.2).trans (Below.heap_alloc _ _ _ hea)).trans hbe)
  have hmt := method_read ⟨k.rb, 0, none⟩
  clear hbb hbe hne
  go_enter Ybad.func5, Ybad.ntmps5
  go_wp2_with (go_at_call 22; refine hcall.mono ?_; rintro e w1 ⟨rfl, A⟩; have hE1 := A.rs.hE; have hq1 := hq.out w1 A)
  go_ret2
  exact ⟨rfl, by have := GP.of A; rwa [wrap01] at this⟩

set_option maxHeartbeats 1000000 in
theorem g_past {k : Cst} {pb P cp : Nat} {size : Int} {what : ByteArray} {cur : Array Value} {w : World} (H : GH k pb P cur w) (off : Int) (ho : (k.L : Int) ≤ off) (hs : size ≤ off) (ho2 : off ≤ 9223372036854775807) :
    Calls Ybad.prog 5 #[.agg #[.iface 24 (.pointer (some ⟨k.rb, 0, none⟩)), .int .i64 size, .string what], .slice (some ⟨pb, 0, none⟩) P cp, .int .i64 off] w fun e w' => e = .returned (.tuple #[.int .i64 0, .iface 40 (.pointer (some k.ea))]) ∧ GP k pb 1 cur w w' := by
  obtain ⟨ok, h, hrb, hpb, hg, hcur, hP⟩ := H
  have hcall := read_past (k := k) (pb := pb) (P := P) (cp := cp) (c := 0) (off := off) (cur := cur) (t := 5) (w := w.alloc (.cells #[.iface 24 (.pointer (some ⟨k.rb, 0, none⟩)), .int .i64 size, .string what] 33)) ok (h.alloc ok (by omega) _) hrb ((Below.heap_alloc _ _ _ hpb).trans hg) ho
  have hmt := method_read ⟨k.rb, 0, none⟩
  have hq := neq_same k.ea
  have hrw : k.rb < w.heap.size := by omega
  go_enter Ybad.func5, Ybad.ntmps5
  go_wp2_with (go_at_call 22; refine hcall.mono ?_; rintro e w1 ⟨rfl, A⟩; have hE1 := A.rs.hE; have s1 := box_cell hrw hpb A 1; have s2 := box_cell hrw hpb A 2)
  go_ret2
  exact ⟨rfl, by have := GP.of A; rwa [wrap01] at this⟩

theorem GP.drewN {k : Cst} {pb : Nat} {c : Int} {new : Array Value} {w w' : World} (h : GP k pb c new w w') (n : Nat) : GP k pb c new w (w'.drewN n) :=
  ⟨⟨h.rs.r0, h.rs.r1, h.rs.r2, h.rs.rf, h.rs.hE, h.rs.data⟩, h.row, h.kept, h.os, h.tape, h.output, h.size⟩
theorem GP.later {k : Cst} {pb : Nat} {c c' : Int} {new x : Array Value} {w w1 w2 : World} (h : GP k pb c new w w1) (hp : k.rb < pb) (hpb : pb < w.heap.size) (E : ERel k w1 c' x w2) : GP k pb c' new w w2 := by
  have hs := h.size
  exact ⟨E.rs, (E.kept pb (by omega) (by omega)).trans h.row, fun b hb h1 h2 => (E.kept b (by omega) h1).trans (h.kept b hb h1 h2), E.os.trans h.os, E.tape.trans h.tape, E.output.trans h.output, by rw [E.size]; omega⟩

set_option maxHeartbeats 1000000 in
theorem g_cut0 {k : Cst} {pb P cp : Nat} {size : Int} {what : ByteArray} {cur : Array Value} {w : World} (H : GH k pb P cur w) (hL : k.L = 0) (hs : 0 < size) :
    Calls Ybad.prog 5 #[.agg #[.iface 24 (.pointer (some ⟨k.rb, 0, none⟩)), .int .i64 size, .string what], .slice (some ⟨pb, 0, none⟩) P cp, .int .i64 0] w fun e w' => e = .returned (.tuple #[.int .i64 0, .iface 37 (.agg #[.string what, .int .i64 0, .int .i64 size])]) ∧ ∃ c, GP k pb c cur w w' := by
  obtain ⟨ok, h, hrb, hpb, hg, hcur, hP⟩ := H
  have hcall := read_past (k := k) (pb := pb) (P := P) (cp := cp) (c := 0) (off := 0) (cur := cur) (t := 5) (w := w.alloc (.cells #[.iface 24 (.pointer (some ⟨k.rb, 0, none⟩)), .int .i64 size, .string what] 33)) ok (h.alloc ok (by omega) _) hrb ((Below.heap_alloc _ _ _ hpb).trans hg) (by omega)
  have hmt := method_read ⟨k.rb, 0, none⟩
  have hq := neq_same k.ea
  have hrw : k.rb < w.heap.size := by omega
  clear hL
  by_cases hP0 : P = 0
  · subst hP0
    go_enter Ybad.func5, Ybad.ntmps5
    go_wp2_with (go_at_call 22; refine hcall.mono ?_; rintro e w1 ⟨rfl, A⟩; have hE1 := A.rs.hE; have s1 := box_cell hrw hpb A 1; have s2 := box_cell hrw hpb A 2)
    go_quiet (fail)
    go_wp2
    go_ret2
    exact ⟨rfl, _, (GP.of A).drewN _⟩
  · have hP1 : ((0 : Int) == (P : Int)) = false := by simp; omega
    clear hP0
    go_enter Ybad.func5, Ybad.ntmps5
    go_wp2_with (go_at_call 22; refine hcall.mono ?_; rintro e w1 ⟨rfl, A⟩; have hE1 := A.rs.hE; have s1 := box_cell hrw hpb A 1; have s2 := box_cell hrw hpb A 2)
    go_quiet (fail)
    go_wp2
    go_ret2
    exact ⟨rfl, _, (GP.of A).drewN _⟩

set_option maxHeartbeats 1000000 in
theorem g_cut {k : Cst} {pb P cp : Nat} {size : Int} {what : ByteArray} {cur : Array Value} {w : World} (H : GH k pb P cur w) (off : Nat) (ho : k.L ≤ off) (ho1 : 0 < off) (hs : (off : Int) < size) (hs2 : size ≤ 9223372036854775807) :
    Calls Ybad.prog 5 #[.agg #[.iface 24 (.pointer (some ⟨k.rb, 0, none⟩)), .int .i64 size, .string what], .slice (some ⟨pb, 0, none⟩) P cp, .int .i64 (off : Int)] w fun e w' => e = .returned (.tuple #[.int .i64 0, .iface 37 (.agg #[.string what, .int .i64 (k.L : Int), .int .i64 size])]) ∧ ∃ c, GP k pb c cur w w' := by
  obtain ⟨ok, h, hrb, hpb, hg, hcur, hP⟩ := H
  have hcall := read_past (k := k) (pb := pb) (P := P) (cp := cp) (c := 0) (off := (off : Int)) (cur := cur) (t := 5) (w := w.alloc (.cells #[.iface 24 (.pointer (some ⟨k.rb, 0, none⟩)), .int .i64 size, .string what] 33)) ok (h.alloc ok (by omega) _) hrb ((Below.heap_alloc _ _ _ hpb).trans hg) (by omega)
  have hmt := method_read ⟨k.rb, 0, none⟩
  have hq := neq_same k.ea
  have hrw : k.rb < w.heap.size := by omega
  have hend : Hid (∀ w1 (A : After k pb 0 cur 5 (w.alloc (.cells #[.iface 24 (.pointer (some ⟨k.rb, 0, none⟩)), .int .i64 size, .string what] 33)) w1), Calls Ybad.prog 6 #[.agg #[.iface 24 (.pointer (some ⟨k.rb, 0, none⟩)), .int .i64 size, .string what], .int .i64 (off : Int)] w1 fun e w' => e = .returned (.tuple #[.int .i64 (k.L : Int), .nilIface]) ∧ ∃ c' x, ERel k w1 c' x w') := fun w1 A =>
    end_any k ok off size what _ w1 A.rs (by have := A.only.size; simp at this; omega) ho (by omega)
  have hsz : Hid (∀ w1 (A : After k pb 0 cur 5 (w.alloc (.cells #[.iface 24 (.pointer (some ⟨k.rb, 0, none⟩)), .int .i64 size, .string what] 33)) w1), w1.heap.size = w.heap.size + 1) := fun w1 A => by have := A.only.size; simpa using this
  by_cases hP0 : P = 0
  · subst hP0
    go_enter Ybad.func5, Ybad.ntmps5
    go_wp2_with (first
      | (go_at_call 22; refine hcall.mono ?_; rintro e w1 ⟨rfl, A⟩; have hE1 := A.rs.hE; have s0 := box_cell hrw hpb A 0; have s1 := box_cell hrw hpb A 1; have s2 := box_cell hrw hpb A 2)
      | (go_at_call 6; refine (hend.out w1 A).mono ?_; rintro e w2 ⟨rfl, c2, x2, E⟩; have u1 := (World.cell?_of_block (w := w1) (a := ⟨w.heap.size, 1, none⟩) (E.kept w.heap.size (by rw [hsz.out w1 A]; omega) (by omega))).trans s1; have u2 := (World.cell?_of_block (w := w1) (a := ⟨w.heap.size, 2, none⟩) (E.kept w.heap.size (by rw [hsz.out w1 A]; omega) (by omega))).trans s2))
    go_quiet (fail)
    go_wp2
    go_ret2
    exact ⟨rfl, _, ((GP.of A).later hrb hpb E).drewN _⟩
  · have hP1 : ((0 : Int) == (P : Int)) = false := by simp; omega
    clear hP0
    go_enter Ybad.func5, Ybad.ntmps5
    go_wp2_with (first
      | (go_at_call 22; refine hcall.mono ?_; rintro e w1 ⟨rfl, A⟩; have hE1 := A.rs.hE; have s0 := box_cell hrw hpb A 0; have s1 := box_cell hrw hpb A 1; have s2 := box_cell hrw hpb A 2)
      | (go_at_call 6; refine (hend.out w1 A).mono ?_; rintro e w2 ⟨rfl, c2, x2, E⟩; have u1 := (World.cell?_of_block (w := w1) (a := ⟨w.heap.size, 1, none⟩) (E.kept w.heap.size (by rw [hsz.out w1 A]; omega) (by omega))).trans s1; have u2 := (World.cell?_of_block (w := w1) (a := ⟨w.heap.size, 2, none⟩) (E.kept w.heap.size (by rw [hsz.out w1 A]; omega) (by omega))).trans s2))
    go_quiet (fail)
    go_wp2
    go_ret2
    exact ⟨rfl, _, ((GP.of A).later hrb hpb E).drewN _⟩

set_option maxHeartbeats 1000000 in
theorem g_short_eof {k : Cst} {pb P cp : Nat} {size : Int} {what : ByteArray} {cur : Array Value} {w : World} (H : GH k pb P cur w) (o : Nat) (ho : o < k.L) (n : Nat) (hn : (n : Int) = (k.L : Int) - (o : Int)) (hnP : n < P) (hs : size ≤ (k.L : Int)) :
    Calls Ybad.prog 5 #[.agg #[.iface 24 (.pointer (some ⟨k.rb, 0, none⟩)), .int .i64 size, .string what], .slice (some ⟨pb, 0, none⟩) P cp, .int .i64 (o : Int)] w fun e w' => e = .returned (.tuple #[.int .i64 (n : Int), .iface 40 (.pointer (some k.ea))]) ∧ GP k pb 1 (part k.zs o n ++ cur.toList.drop n).toArray w w' := by
  obtain ⟨ok, h, hrb, hpb, hg, hcur, hP⟩ := H
  have hcall := read_in (k := k) (pb := pb) (P := P) (cp := cp) (o := o) (n := n) (c := 0) (cur := cur) (t := 5) (w := w.alloc (.cells #[.iface 24 (.pointer (some ⟨k.rb, 0, none⟩)), .int .i64 size, .string what] 33)) ok (h.alloc ok (by omega) _) hrb hP ((Below.heap_alloc _ _ _ hpb).trans hg) hcur ho (by omega) (by omega) (by omega)
  rw [if_pos (by omega)] at hcall
  obtain ⟨new, hnew⟩ : ∃ new, new = (part k.zs o n ++ cur.toList.drop n).toArray := ⟨_, rfl⟩
  rw [← hnew] at hcall ⊢
  have hmt := method_read ⟨k.rb, 0, none⟩
  have hq := neq_same k.ea
  have hrw : k.rb < w.heap.size := by omega
  have hLL := ok.hL
  have hn1 : (o : Int) + (n : Int) ≤ (k.L : Int) := by omega
  have hn2 : (k.L : Int) ≤ (o : Int) + (n : Int) := by omega
  clear hn
  clear hnew
  go_enter Ybad.func5, Ybad.ntmps5
  go_wp2_with (go_at_call 22; refine hcall.mono ?_; rintro e w1 ⟨rfl, A⟩; have hE1 := A.rs.hE; have s1 := box_cell hrw hpb A 1; have s2 := box_cell hrw hpb A 2)
  go_ret2
  exact ⟨rfl, by have := GP.of A; rwa [wrap01] at this⟩

set_option maxHeartbeats 1000000 in
theorem g_short_cut {k : Cst} {pb P cp : Nat} {size : Int} {what : ByteArray} {cur : Array Value} {w : World} (H : GH k pb P cur w) (o : Nat) (ho : o < k.L) (n : Nat) (hn : (n : Int) = (k.L : Int) - (o : Int)) (hnP : n < P) (hs : (k.L : Int) < size) :
    Calls Ybad.prog 5 #[.agg #[.iface 24 (.pointer (some ⟨k.rb, 0, none⟩)), .int .i64 size, .string what], .slice (some ⟨pb, 0, none⟩) P cp, .int .i64 (o : Int)] w fun e w' => e = .returned (.tuple #[.int .i64 (n : Int), .iface 37 (.agg #[.string what, .int .i64 ((o : Int) + (n : Int)), .int .i64 size])]) ∧ GP k pb 1 (part k.zs o n ++ cur.toList.drop n).toArray w w' := by
  obtain ⟨ok, h, hrb, hpb, hg, hcur, hP⟩ := H
  have hcall := read_in (k := k) (pb := pb) (P := P) (cp := cp) (o := o) (n := n) (c := 0) (cur := cur) (t := 5) (w := w.alloc (.cells #[.iface 24 (.pointer (some ⟨k.rb, 0, none⟩)), .int .i64 size, .string what] 33)) ok (h.alloc ok (by omega) _) hrb hP ((Below.heap_alloc _ _ _ hpb).trans hg) hcur ho (by omega) (by omega) (by omega)
  rw [if_pos (by omega)] at hcall
  obtain ⟨new, hnew⟩ : ∃ new, new = (part k.zs o n ++ cur.toList.drop n).toArray := ⟨_, rfl⟩
  rw [← hnew] at hcall ⊢
  have hmt := method_read ⟨k.rb, 0, none⟩
  have hq := neq_same k.ea
  have hrw : k.rb < w.heap.size := by omega
  have hLL := ok.hL
  have hn1 : (o : Int) + (n : Int) ≤ (k.L : Int) := by omega
  have hn2 : (k.L : Int) ≤ (o : Int) + (n : Int) := by omega
  have hn3 : ((n : Int) == (P : Int)) = false := by simp; omega
  have hn4 : ((n : Int) == 0) = false := by simp; omega
  clear hn
  clear hnew
  go_enter Ybad.func5, Ybad.ntmps5
  go_wp2_with (go_at_call 22; refine hcall.mono ?_; rintro e w1 ⟨rfl, A⟩; have hE1 := A.rs.hE; have s1 := box_cell hrw hpb A 1; have s2 := box_cell hrw hpb A 2)
  go_quiet (fail)
  go_wp2
  go_ret2
  exact ⟨rfl, by have := (GP.of A).drewN nq; rwa [wrap01] at this⟩

set_option maxHeartbeats 1000000 in
theorem g_full {k : Cst} {pb P cp : Nat} {size : Int} {what : ByteArray} {cur : Array Value} {w : World} (H : GH k pb P cur w) (o : Nat) (ho : o < k.L) (hPL : P ≤ k.L - o) :
    Calls Ybad.prog 5 #[.agg #[.iface 24 (.pointer (some ⟨k.rb, 0, none⟩)), .int .i64 size, .string what], .slice (some ⟨pb, 0, none⟩) P cp, .int .i64 (o : Int)] w fun e w' => e = .returned (.tuple #[.int .i64 (P : Int), .nilIface]) ∧ GP k pb 1 (part k.zs o P ++ cur.toList.drop P).toArray w w' := by
  obtain ⟨ok, h, hrb, hpb, hg, hcur, hP⟩ := H
  have hcall := read_in (k := k) (pb := pb) (P := P) (cp := cp) (o := o) (n := P) (c := 0) (cur := cur) (t := 5) (w := w.alloc (.cells #[.iface 24 (.pointer (some ⟨k.rb, 0, none⟩)), .int .i64 size, .string what] 33)) ok (h.alloc ok (by omega) _) hrb hP ((Below.heap_alloc _ _ _ hpb).trans hg) hcur ho (by omega) (by omega) (by omega)
  rw [if_neg (by omega)] at hcall
  obtain ⟨new, hnew⟩ : ∃ new, new = (part k.zs o P ++ cur.toList.drop P).toArray := ⟨_, rfl⟩
  rw [← hnew] at hcall ⊢
  have hmt := method_read ⟨k.rb, 0, none⟩
  have hq := neq_same k.ea
  have hrw : k.rb < w.heap.size := by omega
  have hLL := ok.hL
  clear hnew
  go_enter Ybad.func5, Ybad.ntmps5
  go_wp2_with (go_at_call 22; refine hcall.mono ?_; rintro e w1 ⟨rfl, A⟩; have hE1 := A.rs.hE; have s1 := box_cell hrw hpb A 1; have s2 := box_cell hrw hpb A 2)
  all_goals (go_ret2; exact ⟨rfl, by have := GP.of A; rwa [wrap01] at this⟩)
end Go.Proofs.YbulkcymuDoor.Rd
