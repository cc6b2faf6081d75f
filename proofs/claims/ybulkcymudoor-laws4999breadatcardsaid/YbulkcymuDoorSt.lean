import Derived.Test.YbulkcymuDoorRd
namespace Go.Proofs.YbulkcymuDoor.Rd
open Go.RowKit
set_option linter.unusedVariables false

/-- The reader's constants: its block, its error's block, the data's place, length and capacity, io.EOF's pointee, the data's address, its bytes. -/
structure Cst where
  rb : Nat
  eb : Nat
  db : Nat
  doff : Nat
  L : Nat
  cap : Nat
  ea : Addr
  ao : Option Addr
  zs : List Int

structure Cst.Ok (k : Cst) : Prop where
  hL : k.L ≤ 1024
  lc : k.L ≤ k.cap
  rb0 : k.rb ≠ 0
  dr : 0 < k.L → k.db < k.rb
  ao : 0 < k.L → k.ao = some ⟨k.db, k.doff, none⟩
  zl : k.zs.length = k.L

/-- The reader's state in a world, c its count of calls. -/
structure RS (k : Cst) (c : Int) (w : World) : Prop where
  r0 : w.cell? ⟨k.rb, 0, none⟩ = some (.slice k.ao k.L k.cap)
  r1 : w.cell? ⟨k.rb, 1, none⟩ = some (.iface 40 (.pointer (some ⟨k.eb, 0, none⟩)))
  r2 : w.cell? ⟨k.rb, 2, none⟩ = some (.int .i64 c)
  rf : w.frozen? ⟨k.rb, 2, none⟩ = false
  hE : w.cell? ⟨0, 0, none⟩ = some (.iface 40 (.pointer (some k.ea)))
  data : ∀ i, i < k.L → w.cell? ⟨k.db, k.doff + i, none⟩ = some (.int .u8 (k.zs.getD i 0))

/-- Nothing but the blocks rb and pb has turned; no block has come or gone. -/
structure Only (rb pb : Nat) (w w' : World) : Prop where
  os : w'.os = w.os
  tape : w'.tape = w.tape
  output : w'.output = w.output
  size : w'.heap.size = w.heap.size
  block : ∀ b, b ≠ rb → b ≠ pb → w'.heap[b]? = w.heap[b]?

theorem RS.set {k : Cst} {c : Int} {w : World} (ok : k.Ok) (h : RS k c w) (v : Int) : RS k v (w.setCell ⟨k.rb, 2, none⟩ (.int .i64 v)) := by
  have o : ∀ b o, ¬ (b = k.rb ∧ o = 2) → (w.setCell ⟨k.rb, 2, none⟩ (.int .i64 v)).cell? ⟨b, o, none⟩ = w.cell? ⟨b, o, none⟩ := fun b o hn =>
    World.cell?_setCell_other _ ⟨k.rb, 2, none⟩ ⟨b, o, none⟩ _ (fun e => hn ⟨(congrArg Addr.block e).symm, (congrArg Addr.off e).symm⟩)
  have h0 := ok.rb0
  exact ⟨(o _ _ (by omega)).trans h.r0, (o _ _ (by omega)).trans h.r1, World.cell?_setCell_same _ _ _ h.r2, by simp [h.rf], (o _ _ (by omega)).trans h.hE, fun i hi => (o _ _ (by have := ok.dr (by omega); omega)).trans (h.data i hi)⟩
theorem RS.of {k : Cst} {c : Int} {w w' : World} (ok : k.Ok) (h : RS k c w) {pb : Nat} (hp : k.rb < pb) (hb : ∀ b, b ≠ pb → w'.heap[b]? = w.heap[b]?) : RS k c w' := by
  have o : ∀ b o, b ≠ pb → w'.cell? ⟨b, o, none⟩ = w.cell? ⟨b, o, none⟩ := fun b o hn => World.cell?_of_block (w := w) (hb b hn)
  exact ⟨(o _ _ (by omega)).trans h.r0, (o _ _ (by omega)).trans h.r1, (o _ _ (by omega)).trans h.r2, (World.frozen?_of_block (w := w) (hb _ (by show k.rb ≠ pb; omega))).trans h.rf, (o _ _ (by omega)).trans h.hE,
    fun i hi => (o _ _ (by have := ok.dr (by omega); omega)).trans (h.data i hi)⟩

/-- What one read leaves. -/
structure After (k : Cst) (pb : Nat) (c : Int) (new : Array Value) (t : TypeId) (w w' : World) : Prop where
  rs : RS k (wrap64 (c + 1)) w'
  row : w'.heap[pb]? = some (.cells new t (0, 0))
  only : Only k.rb pb w w'

theorem after_still {k : Cst} {pb : Nat} {c : Int} {cur : Array Value} {t : TypeId} {w : World} (ok : k.Ok) (h : RS k c w) (hp : k.rb < pb) (hg : w.heap[pb]? = some (.cells cur t (0, 0))) (n : Nat) :
    After k pb c cur t w ((w.setCell ⟨k.rb, 2, none⟩ (.int .i64 (wrap64 (c + 1)))).drewN n) := by
  have hs := h.set ok (wrap64 (c + 1))
  refine ⟨⟨hs.r0, hs.r1, hs.r2, hs.rf, hs.hE, hs.data⟩, ?_, rfl, rfl, rfl, by simp, fun b h1 h2 => ?_⟩
  · exact (Below.heap_setCell _ _ _ _ (by show pb ≠ k.rb; omega)).trans hg
  · exact Below.heap_setCell _ _ _ _ h1
theorem after_row {k : Cst} {pb : Nat} {c : Int} {cur new : Array Value} {t : TypeId} {w : World} (ok : k.Ok) (h : RS k c w) (hp : k.rb < pb) (hg : w.heap[pb]? = some (.cells cur t (0, 0))) (n : Nat) :
    After k pb c new t w (((w.setCell ⟨k.rb, 2, none⟩ (.int .i64 (wrap64 (c + 1)))).setRow pb new).drewN n) := by
  have hg' : (w.setCell ⟨k.rb, 2, none⟩ (.int .i64 (wrap64 (c + 1)))).heap[pb]? = some (.cells cur t (0, 0)) := (Below.heap_setCell _ _ _ _ (by show pb ≠ k.rb; omega)).trans hg
  have hs := (h.set ok (wrap64 (c + 1))).of ok hp (w' := (w.setCell ⟨k.rb, 2, none⟩ (.int .i64 (wrap64 (c + 1)))).setRow pb new) (fun b hb => setRow_other _ pb b new hb)
  refine ⟨⟨hs.r0, hs.r1, hs.r2, hs.rf, hs.hE, hs.data⟩, setRow_heap _ pb cur new t _ hg', rfl, rfl, rfl, by simp [World.setRow], fun b h1 h2 => ?_⟩
  exact (setRow_other _ pb b new h2).trans (Below.heap_setCell _ _ _ _ h1)

/-- The bytes that go over. -/
def part (zs : List Int) (o n : Nat) : List Value := ((zs.drop o).take n).map (Value.int .u8)
theorem part_length {zs : List Int} {o n : Nat} (h : o + n ≤ zs.length) : (part zs o n).length = n := by simp [part]; omega
theorem part_get {zs : List Int} {o n j : Nat} (h : o + n ≤ zs.length) (hj : j < n) : (part zs o n)[j]? = some (.int .u8 (zs.getD (o + j) 0)) := by
  simp [part, hj, List.getD, List.getElem?_eq_getElem (show o + j < zs.length by omega)]

/-- A read at o < L into a row of P cells. -/
theorem read_in {k : Cst} {pb P cp o n : Nat} {c : Int} {cur : Array Value} {t : TypeId} {w : World} (ok : k.Ok) (h : RS k c w) (hp : k.rb < pb) (hP : P ≤ 1024) (hg : w.heap[pb]? = some (.cells cur t (0, 0))) (hcur : cur.size = P) (ho : o < k.L)
    (hn1 : n ≤ k.L - o) (hn2 : n ≤ P) (hn3 : n = k.L - o ∨ n = P) :
    Calls Ybad.prog 22 #[.pointer (some ⟨k.rb, 0, none⟩), .slice (some ⟨pb, 0, none⟩) P cp, .int .i64 (o : Int)] w fun e w' => e = .returned (.tuple #[.int .i64 (n : Int), if n < P then .iface 40 (.pointer (some k.ea)) else .nilIface]) ∧
      After k pb c (part k.zs o n ++ cur.toList.drop n).toArray t w w' := by
  have hz := ok.zl
  have r0 := h.r0
  rw [ok.ao (by omega)] at r0
  refine (rd_in k.rb k.eb pb k.db k.doff k.ea k.L k.cap P cp o n c cur t (part k.zs o n) w ok.hL hP ok.rb0 (by omega) (by omega) (by have := ok.dr (by omega); omega) ok.lc r0 h.r2 h.rf h.hE ho hg hcur (part_length (by omega)) hn1 hn2 hn3 (fun j v hj => ?_) (fun v hv => ?_)).mono ?_
  · have hjn : j < n := by
      have := (List.getElem?_eq_some_iff.1 hj).1
      rwa [part_length (by omega)] at this
    rw [part_get (by omega) hjn] at hj
    rw [Nat.add_assoc, h.data (o + j) (by omega)]
    exact hj
  · exact ints_oneCell .u8 _ v hv
  · rintro e w' ⟨he, q, rfl⟩
    exact ⟨he, after_row ok h hp hg q⟩

/-- A read past the end. -/
theorem read_past {k : Cst} {pb P cp : Nat} {c off : Int} {cur : Array Value} {t : TypeId} {w : World} (ok : k.Ok) (h : RS k c w) (hp : k.rb < pb) (hg : w.heap[pb]? = some (.cells cur t (0, 0))) (ho : (k.L : Int) ≤ off) :
    Calls Ybad.prog 22 #[.pointer (some ⟨k.rb, 0, none⟩), .slice (some ⟨pb, 0, none⟩) P cp, .int .i64 off] w fun e w' => e = .returned (.tuple #[.int .i64 0, .iface 40 (.pointer (some k.ea))]) ∧ After k pb c cur t w w' := by
  refine (rd_past k.rb k.eb k.ao (some ⟨pb, 0, none⟩) k.ea k.L k.cap P cp c off w ok.hL ok.rb0 h.r0 h.r1 h.r2 h.rf h.hE ho).mono ?_
  rintro e w' ⟨he, q, rfl⟩
  exact ⟨he, after_still ok h hp hg q⟩
/-- A read at a negative offset. -/
theorem read_neg {k : Cst} {pb P cp : Nat} {c off : Int} {cur : Array Value} {t : TypeId} {w : World} (ok : k.Ok) (h : RS k c w) (hp : k.rb < pb) (hg : w.heap[pb]? = some (.cells cur t (0, 0))) (ho : off < 0) :
    Calls Ybad.prog 22 #[.pointer (some ⟨k.rb, 0, none⟩), .slice (some ⟨pb, 0, none⟩) P cp, .int .i64 off] w fun e w' => e = .returned (.tuple #[.int .i64 0, .iface 40 (.pointer (some ⟨k.eb, 0, none⟩))]) ∧ After k pb c cur t w w' := by
  refine (rd_neg k.rb k.eb k.ao (some ⟨pb, 0, none⟩) k.L k.cap P cp c off w h.r0 h.r1 h.r2 h.rf ho).mono ?_
  rintro e w' ⟨he, q, rfl⟩
  exact ⟨he, after_still ok h hp hg q⟩
end Go.Proofs.YbulkcymuDoor.Rd
