import Derived.Test.YbulkcyjoFmtDec
import Derived.Laws.Runes
namespace Go.Proofs.YbulkcyjoFmt
open Go.RowKit Go.Extern.Stop Go.Stop Go.Extern Go.Kit
set_option linter.unusedVariables false

/-- '+' on two strings, the sum under a name. -/
theorem wpList_str_add {P : Program} (w : World) {ops : Array Oper} {rest : List Oper} {o : Oper} {a : Act} {Q : Exit → Act → World → Prop}
    (hg : o.guard = none) (x y : Operand) (t ty : TypeId) (hop : o.op = Op.binOp .add t x y ty) (s1 s2 S : ByteArray) (hx : a.eval x = .string s1) (hy : a.eval y = .string s2)
    (h : s1.size + s2.size ≤ 9223372036854775807) (hS : s1 ++ s2 = S) (hK : wpList P ops Q rest (a.put o.dst (.string S)) w) : wpList P ops Q (o :: rest) a w := by
  refine wpList_plain hg fun K hK' => ?_
  have hr := run_string_add_sum (P := P) w s1 s2 h
  rw [hS] at hr
  unfold Oper.wp
  simp [execOp, hop, hx, hy, binOp_string_add, hr, eqGuard, Result.andThen]
  exact hK' _ _ hK

set_option maxHeartbeats 1000000 in
theorem ex_pos (m : Nat) (D S1 S2 S3 Y C1 C2 : ByteArray) (w : World) (h2 : m ≤ 9223372036854775807)
    (hD : Calls Ybaf.prog 5 #[.int .u64 ((m : Int) / 100)] w fun e w' => e = .returned (.string D) ∧ Below w.heap.size w w')
    (hY : ∀ w1, Below w.heap.size w w1 → Calls Ybaf.prog 6 #[.int .i64 (m : Int)] w1 fun e w' => e = .returned (.string Y) ∧ Below w1.heap.size w1 w')
    (a1 : Hid (D.size + (⟨#[46]⟩ : ByteArray).size ≤ 9223372036854775807 ∧ D ++ ⟨#[46]⟩ = S1))
    (a2 : Hid (S1.size + C1.size ≤ 9223372036854775807 ∧ S1 ++ C1 = S2))
    (a3 : Hid (S2.size + C2.size ≤ 9223372036854775807 ∧ S2 ++ C2 = S3))
    (a4 : Hid ((⟨#[]⟩ : ByteArray).size + S3.size ≤ 9223372036854775807 ∧ ⟨#[]⟩ ++ S3 = Y))
    (c1 : ∀ w, (convert 21 9 (.int .i32 (48 + (m : Int) % 100 / 10))).run Ybaf.prog w = .ok (.string C1) w)
    (c2 : ∀ w, (convert 21 9 (.int .i32 (48 + (m : Int) % 10))).run Ybaf.prog w = .ok (.string C2) w) :
    Calls Ybaf.prog 3 #[.int .i64 (m : Int)] w fun e w' => e = .returned (.bool true) ∧ Below w.heap.size w w' := by
  have hn : ¬ (m : Int) < 0 := by omega
  go_enter Ybaf.func3, Ybaf.ntmps3
  go_wp2_with (first
    | (go_at_call 5; refine hD.mono ?_; rintro e w1 ⟨rfl, hb1⟩)
    | (go_at_call 6; refine (hY _ hb1).mono ?_; rintro e w2 ⟨rfl, hb2⟩)
    | (refine wpList_str_add _ rfl (.tmp 19) _ 9 9 rfl D _ S1 rfl rfl a1.out.1 a1.out.2 ?_)
    | (refine wpList_str_add _ rfl (.tmp 20) (.tmp 25) 9 9 rfl S1 C1 S2 rfl rfl a2.out.1 a2.out.2 ?_)
    | (refine wpList_str_add _ rfl (.tmp 26) (.tmp 31) 9 9 rfl S2 C2 S3 rfl rfl a3.out.1 a3.out.2 ?_)
    | (refine wpList_str_add _ rfl (.tmp 16) (.tmp 32) 9 9 rfl ⟨#[]⟩ S3 Y rfl rfl a4.out.1 a4.out.2 ?_))
  go_ret
  exact ⟨rfl, hb1.trans (hb2.mono hb1.size)⟩

set_option maxHeartbeats 1000000 in
theorem ex_neg (m q r : Nat) (D S1 S2 S3 Y C1 C2 : ByteArray) (w : World) (h1 : 1 ≤ m) (h2 : m ≤ 9223372036854775808) (hq : (-(m : Int)).tdiv 100 = -(q : Int)) (hr : (-(m : Int)).tmod 100 = -(r : Int)) (hq2 : q ≤ 92233720368547758) (hr2 : r ≤ 99)
    (hD : Calls Ybaf.prog 5 #[.int .u64 (q : Int)] w fun e w' => e = .returned (.string D) ∧ Below w.heap.size w w')
    (hY : ∀ w1, Below w.heap.size w w1 → Calls Ybaf.prog 6 #[.int .i64 (-(m : Int))] w1 fun e w' => e = .returned (.string Y) ∧ Below w1.heap.size w1 w')
    (a1 : Hid (D.size + (⟨#[46]⟩ : ByteArray).size ≤ 9223372036854775807 ∧ D ++ ⟨#[46]⟩ = S1))
    (a2 : Hid (S1.size + C1.size ≤ 9223372036854775807 ∧ S1 ++ C1 = S2))
    (a3 : Hid (S2.size + C2.size ≤ 9223372036854775807 ∧ S2 ++ C2 = S3))
    (a4 : Hid ((⟨#[45]⟩ : ByteArray).size + S3.size ≤ 9223372036854775807 ∧ ⟨#[45]⟩ ++ S3 = Y))
    (c1 : ∀ w, (convert 21 9 (.int .i32 (48 + (r : Int) / 10))).run Ybaf.prog w = .ok (.string C1) w)
    (c2 : ∀ w, (convert 21 9 (.int .i32 (48 + (r : Int) % 10))).run Ybaf.prog w = .ok (.string C2) w) :
    Calls Ybaf.prog 3 #[.int .i64 (-(m : Int))] w fun e w' => e = .returned (.bool true) ∧ Below w.heap.size w w' := by
  have hn : -(m : Int) < 0 := by omega
  go_enter Ybaf.func3, Ybaf.ntmps3
  go_wp2_with (first
    | (go_at_call 5; refine hD.mono ?_; rintro e w1 ⟨rfl, hb1⟩)
    | (go_at_call 6; refine (hY _ hb1).mono ?_; rintro e w2 ⟨rfl, hb2⟩)
    | (refine wpList_str_add _ rfl (.tmp 19) _ 9 9 rfl D _ S1 rfl rfl a1.out.1 a1.out.2 ?_)
    | (refine wpList_str_add _ rfl (.tmp 20) (.tmp 25) 9 9 rfl S1 C1 S2 rfl rfl a2.out.1 a2.out.2 ?_)
    | (refine wpList_str_add _ rfl (.tmp 26) (.tmp 31) 9 9 rfl S2 C2 S3 rfl rfl a3.out.1 a3.out.2 ?_)
    | (refine wpList_str_add _ rfl (.tmp 16) (.tmp 32) 9 9 rfl ⟨#[45]⟩ S3 Y rfl rfl a4.out.1 a4.out.2 ?_))
  go_ret
  exact ⟨rfl, hb1.trans (hb2.mono hb1.size)⟩

theorem encode_small (n : Nat) (h : n < 128) : Utf8.encode (n : Int) = ⟨#[UInt8.ofNat n]⟩ := by
  have hv : Utf8.valid (n : Int) = true := by simp [Utf8.valid]; omega
  simp [Utf8.encode, hv, h]
theorem conv_small (n : Nat) (h : n < 128) (w : World) : (convert 21 9 (.int .i32 (n : Int))).run Ybaf.prog w = .ok (.string ⟨#[UInt8.ofNat n]⟩) w := by
  rw [run_convert_int_string w 21 9 .i32 n (by rw [Ybaf.underlying21]; rfl) Ybaf.underlying9, encode_small n h]
theorem cat {x y z : List UInt8} (h : x ++ y = z) : (ByteArray.mk x.toArray ++ ByteArray.mk y.toArray) = ByteArray.mk z.toArray := by rw [ByteArray.mk_append_mk, h]
theorem size_mk (x : List UInt8) : (ByteArray.mk x.toArray).size = x.length := by simp [ByteArray.size]

theorem exact_all (F : Interp) (fen : Int) (w : World) (h0 : -9223372036854775808 ≤ fen) (h1 : fen ≤ 9223372036854775807) (hF : F.told.answers w.tape) :
    Calls Ybaf.prog 3 #[.int .i64 fen] w fun e w' => e = .returned (.bool true) ∧ Below w.heap.size w w' := by
  have hans : ∀ w1, Below w.heap.size w w1 → F.told.answers w1.tape := fun w1 hb => by rw [hb.tape]; exact hF
  have hlen : ∀ q, q < 18446744073709551616 → (Lib.decDigits q).length ≤ 20 := fun q hq => by rw [Lib.decDigits_length]; exact nDigits_le20 q hq
  by_cases hn : fen < 0
  · obtain ⟨m, rfl⟩ : ∃ m : Nat, fen = -(m : Int) := ⟨fen.natAbs, by omega⟩
    have hl := hlen (m / 100) (by omega)
    refine ex_neg m (m / 100) (m % 100) ⟨(Lib.decDigits (m / 100)).toArray⟩ ⟨(Lib.decDigits (m / 100) ++ [46]).toArray⟩ ⟨(Lib.decDigits (m / 100) ++ [46] ++ [UInt8.ofNat (48 + m % 100 / 10)]).toArray⟩
      ⟨(Lib.decDigits (m / 100) ++ [46] ++ [UInt8.ofNat (48 + m % 100 / 10)] ++ [UInt8.ofNat (48 + m % 100 % 10)]).toArray⟩ ⟨(yuan [45] m).toArray⟩ ⟨#[UInt8.ofNat (48 + m % 100 / 10)]⟩ ⟨#[UInt8.ofNat (48 + m % 100 % 10)]⟩ w (by omega) (by omega)
      (by rw [Int.neg_tdiv, Int.tdiv_eq_ediv_of_nonneg (by omega)]; simp) (by rw [Int.neg_tmod, Int.tmod_eq_emod_of_nonneg (by omega)]; simp) (by omega) (by omega)
      (dec_any (m / 100) w (by omega)) (fun w1 hb => yuan_neg F m w1 (by omega) (by omega) (hans w1 hb)) ⟨?_, cat (y := [46]) rfl⟩ ⟨?_, cat (y := [UInt8.ofNat (48 + m % 100 / 10)]) rfl⟩ ⟨?_, cat (y := [UInt8.ofNat (48 + m % 100 % 10)]) rfl⟩ ⟨?_, cat (x := [45]) (by simp [yuan, two])⟩ ?_ ?_
    · rw [size_mk, size_mk [46]]; simp; omega
    · rw [size_mk, size_mk [UInt8.ofNat (48 + m % 100 / 10)]]; simp; omega
    · rw [size_mk, size_mk [UInt8.ofNat (48 + m % 100 % 10)]]; simp; omega
    · rw [size_mk [45], size_mk]; simp; omega
    · intro w1
      have := conv_small (48 + m % 100 / 10) (by omega) w1
      simpa using this
    · intro w1
      have := conv_small (48 + m % 100 % 10) (by omega) w1
      simpa using this
  · obtain ⟨m, rfl⟩ : ∃ m : Nat, fen = (m : Int) := ⟨fen.toNat, by omega⟩
    have hl := hlen (m / 100) (by omega)
    refine ex_pos m ⟨(Lib.decDigits (m / 100)).toArray⟩ ⟨(Lib.decDigits (m / 100) ++ [46]).toArray⟩ ⟨(Lib.decDigits (m / 100) ++ [46] ++ [UInt8.ofNat (48 + m % 100 / 10)]).toArray⟩
      ⟨(Lib.decDigits (m / 100) ++ [46] ++ [UInt8.ofNat (48 + m % 100 / 10)] ++ [UInt8.ofNat (48 + m % 100 % 10)]).toArray⟩ ⟨(yuan [] m).toArray⟩ ⟨#[UInt8.ofNat (48 + m % 100 / 10)]⟩ ⟨#[UInt8.ofNat (48 + m % 100 % 10)]⟩ w (by omega)
      (by have := dec_any (m / 100) w (by omega); simpa using this) (fun w1 hb => yuan_pos F m w1 (by omega) (hans w1 hb)) ⟨?_, cat (y := [46]) rfl⟩ ⟨?_, cat (y := [UInt8.ofNat (48 + m % 100 / 10)]) rfl⟩ ⟨?_, cat (y := [UInt8.ofNat (48 + m % 100 % 10)]) rfl⟩ ⟨?_, cat (x := []) (by simp [yuan, two])⟩ ?_ ?_
    · rw [size_mk, size_mk [46]]; simp; omega
    · rw [size_mk, size_mk [UInt8.ofNat (48 + m % 100 / 10)]]; simp; omega
    · rw [size_mk, size_mk [UInt8.ofNat (48 + m % 100 % 10)]]; simp; omega
    · rw [size_mk [], size_mk]; simp; omega
    · intro w1
      have := conv_small (48 + m % 100 / 10) (by omega) w1
      simpa using this
    · intro w1
      have := conv_small (48 + m % 100 % 10) (by omega) w1
      have e : ((48 + m % 100 % 10 : Nat) : Int) = 48 + (m : Int) % 10 := by omega
      rw [e] at this
      exact this
end Go.Proofs.YbulkcyjoFmt
