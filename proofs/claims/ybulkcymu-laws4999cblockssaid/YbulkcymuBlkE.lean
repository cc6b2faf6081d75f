import Derived.Test.YbulkcymuBlkC
import Derived.Test.YbulkcymuBlkD
namespace Go.Proofs.Ybulkcymu.Blk
open Go.RowKit
set_option linter.unusedVariables false

/-- The new overlay's block. -/
abbrev OB (q : Nat) : Obj := .cells #[.nilIface, .int .i64 0, .nilIface, .int .i64 0, .bool false, .slice none 0 0, .slice none 0 0, .int .u64 (q : Int), .slice none 0 0, .slice none 0 0, .slice none 0 0, .slice none 0 0, .slice none 0 0, .slice none 0 0] 37

theorem hit_eq (x n s b : Nat) (hn : 1 ≤ n) (hb : b < 65536) : hit x (x + n) s b = decide (min (x / 2 ^ s) 65535 ≤ b ∧ b ≤ min ((x + n - 1) / 2 ^ s) 65535) := by
  have h0 := Nat.two_pow_pos s
  have e1 : b ≤ (x + n - 1) / 2 ^ s ↔ b * 2 ^ s ≤ x + n - 1 := Nat.le_div_iff_mul_le h0
  have e2 : x / 2 ^ s < b + 1 ↔ x < (b + 1) * 2 ^ s := Nat.div_lt_iff_lt_mul h0
  unfold hit
  rw [← Bool.decide_or, ← Bool.decide_and]
  apply decide_eq_decide.2
  generalize x / 2 ^ s = u at *
  generalize (x + n - 1) / 2 ^ s = v at *
  generalize b * 2 ^ s = c at *
  generalize (b + 1) * 2 ^ s = d at *
  omega

/-- What is known of the words that came in. -/
structure PF (w : World) (a0 : Option Addr) (pb po len0 : Nat) (P : Nat → Nat) : Prop where
  hl : (len0 : Int) ≤ 9223372036854775807
  ha : 0 < len0 → a0 = some ⟨pb, po, none⟩
  hp : ∀ i, i < len0 → w.cell? ⟨pb, po + i, none⟩ = some (.int .u64 (P i : Int))
  hpb : ∀ i, i < len0 → P i < 18446744073709551616
  lt : 0 < len0 → pb < w.heap.size

theorem want_of {w w5 : World} {a0 : Option Addr} {pb po len0 : Nat} {P : Nat → Nat} (F : PF w a0 pb po len0 P) (cap0 : Nat) (a1 : Bool) {x n s ob B : Nat} {W : Nat → Nat} (bel : Below w.heap.size w w5) (M : MS ob B s W w5) (hn : 1 ≤ n) (hx : x + n ≤ 9223372036854775807) (hs : s ≤ 46)
    (hbit : ∀ b, b < 65536 → (W (b / 64)).testBit (b % 64) = (decide (min (x / 2 ^ s) 65535 ≤ b ∧ b ≤ min ((x + n - 1) / 2 ^ s) 65535) || (a1 && decide (b / 64 < len0) && (P (b / 64)).testBit (b % 64)))) :
    Calls Yba.prog 6 #[.slice a0 len0 cap0, .bool a1, .int .i64 (x : Int), .int .i64 ((x : Int) + (n : Int)), .int .u64 (s : Int), .slice (some ⟨B, 0, none⟩) 1024 1024] w5 fun e w' => w5 = w' ∧ e = .returned (.bool true) := by
  have := want_any a0 pb po len0 cap0 P a1 x (x + n) s B W w5 hs (by omega) hx F.hl F.ha (fun i hi => (bel.cell (p := ⟨pb, po + i, none⟩) (F.lt (by omega))).trans (F.hp i hi)) F.hpb M.row M.bd (fun b hb => by rw [hbit b hb, hit_eq x n s b hn hb])
  rw [Int.natCast_add] at this
  exact this

theorem made_get (i : Nat) (h : i < 1024) : (madeCells #[Value.int .u64 0] 1024)[i]? = some (.int .u64 0) := by
  rw [← Array.getElem?_toList, toList_madeCells_one, List.getElem?_replicate, if_pos h]

set_option maxRecDepth 100000 in
set_option maxHeartbeats 1000000 in
theorem law_nopre (a0 : Option Addr) (pb po len0 cap0 : Nat) (P : Nat → Nat) (a2 a3 a4 : Int) (w : World) (PP : PF w a0 pb po len0 P) (h1 : -9223372036854775808 ≤ a2) (h2 : a2 ≤ 9223372036854775807) (h3 : -9223372036854775808 ≤ a3) (h4 : a3 ≤ 9223372036854775807) (h5 : 0 ≤ a4) (h6 : a4 ≤ 255) :
    Calls Yba.prog 3 #[.slice a0 len0 cap0, .bool false, .int .i64 a2, .int .i64 a3, .int .u8 a4] w fun e w' => e = .returned (.bool true) ∧ Below w.heap.size w w' := by
  have F := fit_any a2 a3 a4 w h1 h2 h3 h4 h5 h6
  have K : ∀ o m q : Nat, 1 ≤ m → o + m ≤ 9223372036854775807 → q ≤ 46 → Calls Yba.prog 5 #[.pointer (some ⟨w.heap.size, 0, none⟩), .int .i64 (o : Int), .int .i64 (m : Int)] (w.alloc (OB q)) fun e w' => e = .returned (.tuple #[]) ∧ Below w.heap.size w w' ∧ ∃ W', MS w.heap.size (w.heap.size + 1) q W' w' ∧
      ∀ b, b < 65536 → (W' (b / 64)).testBit (b % 64) = (decide (min (o / 2 ^ q) 65535 ≤ b ∧ b ≤ min ((o + m - 1) / 2 ^ q) 65535) || (false && decide (b / 64 < len0) && (P (b / 64)).testBit (b % 64))) := fun o m q hm hom hq => by
    have hsz : (w.alloc (OB q)).heap.size = w.heap.size + 1 := by simp
    refine (mark_nil w.heap.size q o m w.heap.size _ (w.alloc (OB q)) hm hom hq (by omega) (by simp [go_sem]) (by simp [go_sem]) (by simp [go_sem]) make_u (Nat.le_refl _) made_get).mono ?_
    rintro e w' ⟨rfl, bel, W', M, hb⟩
    rw [hsz] at M
    exact ⟨rfl, ((Below.refl _ _).alloc (Nat.le_refl _) _).trans bel, W', M, fun b hbb => by rw [hb b hbb]; simp⟩
  go_enter Yba.func3, Yba.ntmps3
  go_wp2_with (first
    | (go_at_call 4; refine F.mono ?_; rintro e w1 ⟨rfl, o, m, q, rfl, hm, hom, hq⟩)
    | (go_at_call 5; refine (K o m q hm hom hq).mono ?_; rintro e w5 ⟨rfl, bel, W', M, hb⟩; have r6 := M.r6; have r7 := M.r7)
    | (go_at_call 6; refine (want_of PP cap0 false bel M hm hom hq hb).mono ?_; rintro e w6 ⟨rfl, rfl⟩))
  go_ret
  exact ⟨rfl, bel⟩
end Go.Proofs.Ybulkcymu.Blk
