import Derived.Test.YbulkcyjoFmtRound
namespace Go.Proofs.YbulkcyjoFmt
open Go.RowKit Go.Extern.Stop Go.Stop Go.Extern Go.Kit
set_option linter.unusedVariables false

theorem byte_at {l : List UInt8} {j : Nat} {b : UInt8} {c : Int} (h : l[j]? = some b) (hc : (b.toNat : Int) = c) : ∀ h', (((⟨l.toArray⟩ : ByteArray)[j]'h').toNat : Int) = c := by
  intro h'
  have e : (⟨l.toArray⟩ : ByteArray)[j]'h' = b := by
    have h2 : j < l.length := h'
    have : l[j]? = some (l[j]'h2) := List.getElem?_eq_getElem h2
    rw [this] at h
    exact Option.some.inj h
  rw [e, hc]
theorem ofNat_toNat {d : Nat} (h : d < 10) : ((UInt8.ofNat (48 + d)).toNat : Int) = 48 + (d : Int) := by
  simp; omega
theorem digit_at (q t : Nat) (h : t < Lib.nDigits q) : (Lib.decDigits q)[t]? = some (UInt8.ofNat (48 + q / 10 ^ (Lib.nDigits q - 1 - t) % 10)) := by
  rw [Lib.decDigits_eq, List.getElem?_map, List.getElem?_range h]
  rfl
theorem nDigits_lo (q : Nat) : 1 < Lib.nDigits q → 10 ^ (Lib.nDigits q - 1) ≤ q := by
  induction q using Nat.strongRecOn with
  | _ q ih =>
    intro h
    by_cases hq : q < 10
    · rw [Lib.nDigits_small hq] at h; omega
    · rw [Lib.nDigits_big hq] at h ⊢
      by_cases h1 : 1 < Lib.nDigits (q / 10)
      · have := ih (q / 10) (by omega) h1
        have e : Lib.nDigits (q / 10) + 1 - 1 = (Lib.nDigits (q / 10) - 1) + 1 := by omega
        rw [e, Nat.pow_succ]
        omega
      · have e : Lib.nDigits (q / 10) + 1 - 1 = 1 := by have := Lib.nDigits_pos (q / 10); omega
        rw [e]; omega

theorem yuan_get (sg : List UInt8) (m j : Nat) : (yuan sg m)[sg.length + j]? = (Lib.decDigits (m / 100) ++ (46 :: two (m % 100)))[j]? := by
  unfold yuan
  rw [List.getElem?_append_right (by omega)]
  congr 1
  omega
theorem yuan_tail (sg : List UInt8) (m j : Nat) : (yuan sg m)[sg.length + Lib.nDigits (m / 100) + j]? = (46 :: two (m % 100))[j]? := by
  rw [Nat.add_assoc, yuan_get, List.getElem?_append_right (by rw [Lib.decDigits_length]; omega), Lib.decDigits_length]
  congr 1
  omega

theorem txt_of (sg : List UInt8) (m : Nat) (hs : sg.length ≤ 1) (hm : m ≤ 9223372036854775808) : Txt ⟨(yuan sg m).toArray⟩ sg.length (Lib.nDigits (m / 100)) (m / 100) (m % 100) := by
  have hl : (yuan sg m).length = sg.length + Lib.nDigits (m / 100) + 3 := by
    simp [yuan, two, Lib.decDigits_length]; omega
  have hle := yuan_length sg m hs (by omega)
  have hp := Lib.nDigits_pos (m / 100)
  have hlt : Lib.nDigits (m / 100) ≤ 21 := by
    have wa : (Lit.int .u64 ((m / 100 : Nat) : Int)).wf = true := by simp [Lit.wf, IntKind.min, IntKind.max, IntKind.signed, IntKind.bits]; omega
    have h := FmtText.itoa_length_le wa
    have hd : Lib.itoa ((m / 100 : Nat) : Int) = Lib.decDigits (m / 100) := by unfold Lib.itoa; rw [if_neg (by omega), Int.toNat_natCast]
    rw [hd, Lib.decDigits_length] at h
    exact h
  refine ⟨hl, hp, hlt, ?_, ?_, ?_, ?_, nDigits_lo _, Lib.lt_pow_nDigits _, by omega, by omega⟩
  · intro j h1 h2
    obtain ⟨t, rfl⟩ : ∃ t, j = sg.length + t := ⟨j - sg.length, by omega⟩
    refine byte_at (b := UInt8.ofNat (48 + m / 100 / 10 ^ (Lib.nDigits (m / 100) - 1 - t) % 10)) ?_ ?_
    · rw [yuan_get, List.getElem?_append_left (by rw [Lib.decDigits_length]; omega), digit_at _ _ (by omega)]
    · rw [ofNat_toNat (Nat.mod_lt _ (by decide)), show sg.length + Lib.nDigits (m / 100) - 1 - (sg.length + t) = Lib.nDigits (m / 100) - 1 - t by omega]
  · exact byte_at (b := 46) (by have := yuan_tail sg m 0; simpa using this) rfl
  · exact byte_at (b := UInt8.ofNat (48 + m % 100 / 10)) (by have := yuan_tail sg m 1; simpa [two] using this) (ofNat_toNat (by omega))
  · exact byte_at (b := UInt8.ofNat (48 + m % 100 % 10)) (by have := yuan_tail sg m 2; simpa [two] using this) (ofNat_toNat (by omega))

theorem round_trip (F : Interp) (fen : Int) (w : World) (h0 : -9223372036854775808 ≤ fen) (h1 : fen ≤ 9223372036854775807) (hF : F.told.answers w.tape) :
    Calls Ybaf.prog 4 #[.int .i64 fen] w fun e w' => e = .returned (.bool true) ∧ Below w.heap.size w w' := by
  by_cases hn : fen < 0
  · obtain ⟨m, rfl⟩ : ∃ m : Nat, fen = -(m : Int) := ⟨fen.natAbs, by omega⟩
    exact rt_neg _ _ _ _ m w (txt_of [45] m (by simp) (by omega)) (by omega) (byte_at (b := 45) rfl rfl) (by omega) (by omega) (yuan_neg F m w (by omega) (by omega) hF)
  · obtain ⟨m, rfl⟩ : ∃ m : Nat, fen = (m : Int) := ⟨fen.toNat, by omega⟩
    exact rt_pos _ _ _ _ m w (txt_of [] m (by simp) (by omega)) (by omega) (by omega) (yuan_pos F m w (by omega) hF)
end Go.Proofs.YbulkcyjoFmt
