import Derived.Test.YbulkcymuDoorLaw2
namespace Go.Proofs.YbulkcymuDoor.Rd
open Go.RowKit
set_option linter.unusedVariables false

theorem new_lo {zs : List Int} {cur : Array Value} {o n i : Nat} (h : o + n ≤ zs.length) (hi : i < n) : ((part zs o n ++ cur.toList.drop n).toArray)[i]? = some (.int .u8 (zs.getD (o + i) 0)) := by
  rw [List.getElem?_toArray, List.getElem?_append_left (by rw [part_length h]; exact hi), part_get h hi]
theorem new_hi {zs : List Int} {cur : Array Value} {o n i P : Nat} (h : o + n ≤ zs.length) (hi : n ≤ i) (hP : i < P) (hz : ∀ i, i < P → cur[i]? = some (.int .u8 0)) : ((part zs o n ++ cur.toList.drop n).toArray)[i]? = some (.int .u8 0) := by
  rw [List.getElem?_toArray, List.getElem?_append_right (by rw [part_length h]; exact hi), part_length h, List.getElem?_drop, show n + (i - n) = i by omega]
  have := hz i hP
  simpa using this

set_option maxRecDepth 100000 in
set_option maxHeartbeats 2000000 in
theorem law_short_eof (ao : Option Addr) (db doff L cap P : Nat) (ea : Addr) (zs : List Int) (cur : Array Value) (size a3 : Int) (o : Nat) (what : ByteArray) (w : World) (h : LH w ao db doff L cap ea zs) (hP : a3 % 300 = (P : Int)) (h3 : 0 ≤ a3) (hP2 : P ≤ 300) (hc : cur.size = P) (hz : ∀ i, i < P → cur[i]? = some (.int .u8 0))
    (hmk : ∀ w, (Instr.makeSlice 22 (.int .i64 (P : Int)) (.int .i64 (P : Int))).run Ybad.prog w = .ok (.slice (some ⟨w.heap.size, 0, none⟩) P P) (w.alloc (.cells cur 5))) (ho : o < L) (n : Nat) (hLo : (L : Int) - (o : Int) = (n : Int)) (hnP : n < P) (hs : size ≤ (L : Int)) :
    Calls Ybad.prog 3 #[.slice ao L cap, .int .i64 size, .int .i64 (o : Int), .int .u16 a3, .string what] w fun e w' => e = .returned (.bool true) ∧ Below w.heap.size w w' := by
  have hLL := h.hL
  obtain rfl := h.hao (by omega)
  have g0 : ¬ (1024 : Int) < (L : Int) := by omega
  have hzl := h.zl
  have hcall : Calls Ybad.prog 5 #[.agg #[.iface 24 (.pointer (some ⟨w.heap.size + 1, 0, none⟩)), .int .i64 size, .string what], .slice (some ⟨w.heap.size + 1 + 1 + 1, 0, none⟩) P P, .int .i64 (o : Int)] (W4 w (some ⟨db, doff, none⟩) L cap size what cur) fun e w' =>
      e = .returned (.tuple #[.int .i64 (n : Int), .iface 40 (.pointer (some ea))]) ∧ GP (cst w (some ⟨db, doff, none⟩) db doff L cap ea zs) (w.heap.size + 1 + 1 + 1) 1 (part zs o n ++ cur.toList.drop n).toArray (W4 w (some ⟨db, doff, none⟩) L cap size what cur) w' :=
    g_short_eof (gh h size what cur P hc (by omega)) o ho n hLo.symm hnP hs
  have NL : Hid (∀ i, i < n → ((part zs o n ++ cur.toList.drop n).toArray)[i]? = some (.int .u8 (zs.getD (o + i) 0))) := fun i hi => new_lo (by omega) hi
  have NH : Hid (∀ i, n ≤ i → i < P → ((part zs o n ++ cur.toList.drop n).toArray)[i]? = some (.int .u8 0)) := fun i hi hp => new_hi (by omega) hi hp hz
  obtain ⟨new, hnew⟩ : ∃ new, new = (part zs o n ++ cur.toList.drop n).toArray := ⟨_, rfl⟩
  rw [← hnew] at hcall NL NH
  have hq := eql_same ea
  have hta := assert_cut
  have hnP' : (n : Int) < (P : Int) := by omega
  have hon : (o : Int) + (n : Int) ≤ (L : Int) := by omega
  have hon2 : (L : Int) ≤ (o : Int) + (n : Int) := by omega
  clear hz hc hnew
  go_enter Ybad.func3, Ybad.ntmps3
  go_wp2_with (first
    | (go_at_call 4; go_in)
    | (go_at_call 5; refine hcall.mono ?_; rintro e w5 ⟨rfl, G⟩; have r2 : w5.cell? ⟨w.heap.size + 1, 2, none⟩ = some (.int .i64 1) := G.rs.r2; have rE : w5.cell? ⟨0, 0, none⟩ = some (.iface 40 (.pointer (some ea))) := G.rs.hE))
  have HD : Hid (∀ i, i < L → w5.cell? ⟨db, doff + i, none⟩ = some (.int .u8 (zs.getD i 0))) := G.rs.data
  have HR : Hid (∀ i, w5.cell? ⟨w.heap.size + 1 + 1 + 1, i, none⟩ = new[i]?) := fun i => cell_of_row w5 _ i new 5 (0, 0) G.row
  clear hcall hmk
  go_loopw [22] (fun i wx => ∃ k m : Nat, k ≤ P ∧ i = .int .i64 (k : Int) ∧ wx = w5.drewN m) (fun i _ => P - (intOf i).toNat)
  case atStart => exact ⟨0, 0, Nat.zero_le _, rfl, rfl⟩
  case round =>
    obtain ⟨k, m, hk, rfl, rfl⟩ := hrel
    by_cases hkP : k < P
    · have hkP' : (k : Int) < (P : Int) := by omega
      by_cases hkn : k < n
      · have hkn' : (k : Int) < (n : Int) := by omega
        obtain ⟨x, hx⟩ : ∃ x, x = zs.getD (o + k) 0 := ⟨_, rfl⟩
        have hck := (HR.out k).trans (NL.out k hkn)
        have hdk := HD.out (o + k) (by omega)
        rw [← hx] at hck hdk
        clear hx
        have hok : (o : Int) + (k : Int) < (L : Int) := by omega
        have how : IntKind.i64.wrap ((o : Int) + (k : Int)) = (o : Int) + (k : Int) := by rw [IntKind.wrap_i64]; omega
        have hot : ((o : Int) + (k : Int)).toNat = o + k := by omega
        go_wp2
        go_quiet (fail)
        go_wp2
        go_roundw
        case rel => exact ⟨k + 1, _, by omega, by go_num, rfl⟩
        case measure => simp [intOf]; omega
      · have hck := (HR.out k).trans (NH.out k (by omega) hkP)
        have hkn' : ¬ (k : Int) < (n : Int) := by omega
        go_wp2
        go_roundw
        case rel => exact ⟨k + 1, _, by omega, by go_num, rfl⟩
        case measure => simp [intOf]; omega
    · clear HD HR NL NH
      go_wp2
      go_ret
      exact ⟨rfl, (law_below G).trans ⟨rfl, rfl, rfl, Nat.le_refl _, fun _ _ => rfl⟩⟩

set_option maxRecDepth 100000 in
set_option maxHeartbeats 2000000 in
theorem law_short_cut (ao : Option Addr) (db doff L cap P : Nat) (ea : Addr) (zs : List Int) (cur : Array Value) (size a3 : Int) (o : Nat) (what : ByteArray) (w : World) (h : LH w ao db doff L cap ea zs) (hP : a3 % 300 = (P : Int)) (h3 : 0 ≤ a3) (hP2 : P ≤ 300) (hc : cur.size = P) (hz : ∀ i, i < P → cur[i]? = some (.int .u8 0))
    (hmk : ∀ w, (Instr.makeSlice 22 (.int .i64 (P : Int)) (.int .i64 (P : Int))).run Ybad.prog w = .ok (.slice (some ⟨w.heap.size, 0, none⟩) P P) (w.alloc (.cells cur 5))) (ho : o < L) (n : Nat) (hLo : (L : Int) - (o : Int) = (n : Int)) (hnP : n < P) (hs : (L : Int) < size) :
    Calls Ybad.prog 3 #[.slice ao L cap, .int .i64 size, .int .i64 (o : Int), .int .u16 a3, .string what] w fun e w' => e = .returned (.bool true) ∧ Below w.heap.size w w' := by
  have hLL := h.hL
  obtain rfl := h.hao (by omega)
  have g0 : ¬ (1024 : Int) < (L : Int) := by omega
  have hzl := h.zl
  have hcall : Calls Ybad.prog 5 #[.agg #[.iface 24 (.pointer (some ⟨w.heap.size + 1, 0, none⟩)), .int .i64 size, .string what], .slice (some ⟨w.heap.size + 1 + 1 + 1, 0, none⟩) P P, .int .i64 (o : Int)] (W4 w (some ⟨db, doff, none⟩) L cap size what cur) fun e w' =>
      e = .returned (.tuple #[.int .i64 (n : Int), .iface 37 (.agg #[.string what, .int .i64 ((o : Int) + (n : Int)), .int .i64 size])]) ∧ GP (cst w (some ⟨db, doff, none⟩) db doff L cap ea zs) (w.heap.size + 1 + 1 + 1) 1 (part zs o n ++ cur.toList.drop n).toArray (W4 w (some ⟨db, doff, none⟩) L cap size what cur) w' :=
    g_short_cut (gh h size what cur P hc (by omega)) o ho n hLo.symm hnP hs
  have NL : Hid (∀ i, i < n → ((part zs o n ++ cur.toList.drop n).toArray)[i]? = some (.int .u8 (zs.getD (o + i) 0))) := fun i hi => new_lo (by omega) hi
  have NH : Hid (∀ i, n ≤ i → i < P → ((part zs o n ++ cur.toList.drop n).toArray)[i]? = some (.int .u8 0)) := fun i hi hp => new_hi (by omega) hi hp hz
  obtain ⟨new, hnew⟩ : ∃ new, new = (part zs o n ++ cur.toList.drop n).toArray := ⟨_, rfl⟩
  rw [← hnew] at hcall NL NH
  have hq := eql_same ea
  have hta := assert_cut
  have hnP' : (n : Int) < (P : Int) := by omega
  have hon : (o : Int) + (n : Int) ≤ (L : Int) := by omega
  have hon2 : (L : Int) ≤ (o : Int) + (n : Int) := by omega
  clear hz hc hnew
  go_enter Ybad.func3, Ybad.ntmps3
  go_wp2_with (first
    | (go_at_call 4; go_in)
    | (go_at_call 5; refine hcall.mono ?_; rintro e w5 ⟨rfl, G⟩; have r2 : w5.cell? ⟨w.heap.size + 1, 2, none⟩ = some (.int .i64 1) := G.rs.r2; have rE : w5.cell? ⟨0, 0, none⟩ = some (.iface 40 (.pointer (some ea))) := G.rs.hE))
  have HD : Hid (∀ i, i < L → w5.cell? ⟨db, doff + i, none⟩ = some (.int .u8 (zs.getD i 0))) := G.rs.data
  have HR : Hid (∀ i, w5.cell? ⟨w.heap.size + 1 + 1 + 1, i, none⟩ = new[i]?) := fun i => cell_of_row w5 _ i new 5 (0, 0) G.row
  clear hcall hmk
  go_loopw [22] (fun i wx => ∃ k m : Nat, k ≤ P ∧ i = .int .i64 (k : Int) ∧ wx = w5.drewN m) (fun i _ => P - (intOf i).toNat)
  case atStart => exact ⟨0, 0, Nat.zero_le _, rfl, rfl⟩
  case round =>
    obtain ⟨k, m, hk, rfl, rfl⟩ := hrel
    by_cases hkP : k < P
    · have hkP' : (k : Int) < (P : Int) := by omega
      by_cases hkn : k < n
      · have hkn' : (k : Int) < (n : Int) := by omega
        obtain ⟨x, hx⟩ : ∃ x, x = zs.getD (o + k) 0 := ⟨_, rfl⟩
        have hck := (HR.out k).trans (NL.out k hkn)
        have hdk := HD.out (o + k) (by omega)
        rw [← hx] at hck hdk
        clear hx
        have hok : (o : Int) + (k : Int) < (L : Int) := by omega
        have how : IntKind.i64.wrap ((o : Int) + (k : Int)) = (o : Int) + (k : Int) := by rw [IntKind.wrap_i64]; omega
        have hot : ((o : Int) + (k : Int)).toNat = o + k := by omega
        go_wp2
        go_quiet (fail)
        go_wp2
        go_roundw
        case rel => exact ⟨k + 1, _, by omega, by go_num, rfl⟩
        case measure => simp [intOf]; omega
      · have hck := (HR.out k).trans (NH.out k (by omega) hkP)
        have hkn' : ¬ (k : Int) < (n : Int) := by omega
        go_wp2
        go_roundw
        case rel => exact ⟨k + 1, _, by omega, by go_num, rfl⟩
        case measure => simp [intOf]; omega
    · clear HD HR NL NH
      have B6 : Below w.heap.size w (w5.drewN m) := (law_below G).trans ⟨rfl, rfl, rfl, Nat.le_refl _, fun _ _ => rfl⟩
      generalize w5.drewN m = w6 at B6 ⊢
      go_wp2
      go_ret
      exact ⟨rfl, B6.alloc B6.size _⟩

set_option maxRecDepth 100000 in
set_option maxHeartbeats 2000000 in
theorem law_full_eq (ao : Option Addr) (db doff L cap P : Nat) (ea : Addr) (zs : List Int) (cur : Array Value) (size a3 : Int) (o : Nat) (what : ByteArray) (w : World) (h : LH w ao db doff L cap ea zs) (hP : a3 % 300 = (P : Int)) (h3 : 0 ≤ a3) (hP2 : P ≤ 300) (hc : cur.size = P) (hz : ∀ i, i < P → cur[i]? = some (.int .u8 0))
    (hmk : ∀ w, (Instr.makeSlice 22 (.int .i64 (P : Int)) (.int .i64 (P : Int))).run Ybad.prog w = .ok (.slice (some ⟨w.heap.size, 0, none⟩) P P) (w.alloc (.cells cur 5))) (ho : o < L) (hLo : (L : Int) - (o : Int) = (P : Int)) :
    Calls Ybad.prog 3 #[.slice ao L cap, .int .i64 size, .int .i64 (o : Int), .int .u16 a3, .string what] w fun e w' => e = .returned (.bool true) ∧ Below w.heap.size w w' := by
  have hLL := h.hL
  obtain rfl := h.hao (by omega)
  have g0 : ¬ (1024 : Int) < (L : Int) := by omega
  have hzl := h.zl
  have hcall : Calls Ybad.prog 5 #[.agg #[.iface 24 (.pointer (some ⟨w.heap.size + 1, 0, none⟩)), .int .i64 size, .string what], .slice (some ⟨w.heap.size + 1 + 1 + 1, 0, none⟩) P P, .int .i64 (o : Int)] (W4 w (some ⟨db, doff, none⟩) L cap size what cur) fun e w' =>
      e = .returned (.tuple #[.int .i64 (P : Int), .nilIface]) ∧ GP (cst w (some ⟨db, doff, none⟩) db doff L cap ea zs) (w.heap.size + 1 + 1 + 1) 1 (part zs o P ++ cur.toList.drop P).toArray (W4 w (some ⟨db, doff, none⟩) L cap size what cur) w' :=
    g_full (gh h size what cur P hc (by omega)) o ho (by show P ≤ L - o; omega)
  have NL : Hid (∀ i, i < P → ((part zs o P ++ cur.toList.drop P).toArray)[i]? = some (.int .u8 (zs.getD (o + i) 0))) := fun i hi => new_lo (by omega) hi
  have NH : Hid (∀ i, P ≤ i → i < P → ((part zs o P ++ cur.toList.drop P).toArray)[i]? = some (.int .u8 0)) := fun i hi hp => new_hi (by omega) hi hp hz
  obtain ⟨new, hnew⟩ : ∃ new, new = (part zs o P ++ cur.toList.drop P).toArray := ⟨_, rfl⟩
  rw [← hnew] at hcall NL NH
  have hq := eql_same ea
  have hta := assert_cut
  clear hz hc hnew
  go_enter Ybad.func3, Ybad.ntmps3
  go_wp2_with (first
    | (go_at_call 4; go_in)
    | (go_at_call 5; refine hcall.mono ?_; rintro e w5 ⟨rfl, G⟩; have r2 : w5.cell? ⟨w.heap.size + 1, 2, none⟩ = some (.int .i64 1) := G.rs.r2; have rE : w5.cell? ⟨0, 0, none⟩ = some (.iface 40 (.pointer (some ea))) := G.rs.hE))
  have HD : Hid (∀ i, i < L → w5.cell? ⟨db, doff + i, none⟩ = some (.int .u8 (zs.getD i 0))) := G.rs.data
  have HR : Hid (∀ i, w5.cell? ⟨w.heap.size + 1 + 1 + 1, i, none⟩ = new[i]?) := fun i => cell_of_row w5 _ i new 5 (0, 0) G.row
  clear hcall hmk
  go_loopw [22] (fun i wx => ∃ k m : Nat, k ≤ P ∧ i = .int .i64 (k : Int) ∧ wx = w5.drewN m) (fun i _ => P - (intOf i).toNat)
  case atStart => exact ⟨0, 0, Nat.zero_le _, rfl, rfl⟩
  case round =>
    obtain ⟨k, m, hk, rfl, rfl⟩ := hrel
    by_cases hkP : k < P
    · have hkP' : (k : Int) < (P : Int) := by omega
      by_cases hkn : k < P
      · have hkn' : (k : Int) < (P : Int) := by omega
        obtain ⟨x, hx⟩ : ∃ x, x = zs.getD (o + k) 0 := ⟨_, rfl⟩
        have hck := (HR.out k).trans (NL.out k hkn)
        have hdk := HD.out (o + k) (by omega)
        rw [← hx] at hck hdk
        clear hx
        have hok : (o : Int) + (k : Int) < (L : Int) := by omega
        have how : IntKind.i64.wrap ((o : Int) + (k : Int)) = (o : Int) + (k : Int) := by rw [IntKind.wrap_i64]; omega
        have hot : ((o : Int) + (k : Int)).toNat = o + k := by omega
        go_wp2
        go_quiet (fail)
        go_wp2
        go_roundw
        case rel => exact ⟨k + 1, _, by omega, by go_num, rfl⟩
        case measure => simp [intOf]; omega
      · exact absurd hkP hkn
    · clear HD HR NL NH
      go_wp2
      all_goals (go_ret; exact ⟨rfl, (law_below G).trans ⟨rfl, rfl, rfl, Nat.le_refl _, fun _ _ => rfl⟩⟩)

set_option maxRecDepth 100000 in
set_option maxHeartbeats 2000000 in
theorem law_full_lt (ao : Option Addr) (db doff L cap P : Nat) (ea : Addr) (zs : List Int) (cur : Array Value) (size a3 : Int) (o : Nat) (what : ByteArray) (w : World) (h : LH w ao db doff L cap ea zs) (hP : a3 % 300 = (P : Int)) (h3 : 0 ≤ a3) (hP2 : P ≤ 300) (hc : cur.size = P) (hz : ∀ i, i < P → cur[i]? = some (.int .u8 0))
    (hmk : ∀ w, (Instr.makeSlice 22 (.int .i64 (P : Int)) (.int .i64 (P : Int))).run Ybad.prog w = .ok (.slice (some ⟨w.heap.size, 0, none⟩) P P) (w.alloc (.cells cur 5))) (ho : o < L) (hLo : (P : Int) < (L : Int) - (o : Int)) :
    Calls Ybad.prog 3 #[.slice ao L cap, .int .i64 size, .int .i64 (o : Int), .int .u16 a3, .string what] w fun e w' => e = .returned (.bool true) ∧ Below w.heap.size w w' := by
  have hLL := h.hL
  obtain rfl := h.hao (by omega)
  have g0 : ¬ (1024 : Int) < (L : Int) := by omega
  have hzl := h.zl
  have hcall : Calls Ybad.prog 5 #[.agg #[.iface 24 (.pointer (some ⟨w.heap.size + 1, 0, none⟩)), .int .i64 size, .string what], .slice (some ⟨w.heap.size + 1 + 1 + 1, 0, none⟩) P P, .int .i64 (o : Int)] (W4 w (some ⟨db, doff, none⟩) L cap size what cur) fun e w' =>
      e = .returned (.tuple #[.int .i64 (P : Int), .nilIface]) ∧ GP (cst w (some ⟨db, doff, none⟩) db doff L cap ea zs) (w.heap.size + 1 + 1 + 1) 1 (part zs o P ++ cur.toList.drop P).toArray (W4 w (some ⟨db, doff, none⟩) L cap size what cur) w' :=
    g_full (gh h size what cur P hc (by omega)) o ho (by show P ≤ L - o; omega)
  have NL : Hid (∀ i, i < P → ((part zs o P ++ cur.toList.drop P).toArray)[i]? = some (.int .u8 (zs.getD (o + i) 0))) := fun i hi => new_lo (by omega) hi
  have NH : Hid (∀ i, P ≤ i → i < P → ((part zs o P ++ cur.toList.drop P).toArray)[i]? = some (.int .u8 0)) := fun i hi hp => new_hi (by omega) hi hp hz
  obtain ⟨new, hnew⟩ : ∃ new, new = (part zs o P ++ cur.toList.drop P).toArray := ⟨_, rfl⟩
  rw [← hnew] at hcall NL NH
  have hq := eql_same ea
  have hta := assert_cut
  clear hz hc hnew
  go_enter Ybad.func3, Ybad.ntmps3
  go_wp2_with (first
    | (go_at_call 4; go_in)
    | (go_at_call 5; refine hcall.mono ?_; rintro e w5 ⟨rfl, G⟩; have r2 : w5.cell? ⟨w.heap.size + 1, 2, none⟩ = some (.int .i64 1) := G.rs.r2; have rE : w5.cell? ⟨0, 0, none⟩ = some (.iface 40 (.pointer (some ea))) := G.rs.hE))
  have HD : Hid (∀ i, i < L → w5.cell? ⟨db, doff + i, none⟩ = some (.int .u8 (zs.getD i 0))) := G.rs.data
  have HR : Hid (∀ i, w5.cell? ⟨w.heap.size + 1 + 1 + 1, i, none⟩ = new[i]?) := fun i => cell_of_row w5 _ i new 5 (0, 0) G.row
  clear hcall hmk
  go_loopw [22] (fun i wx => ∃ k m : Nat, k ≤ P ∧ i = .int .i64 (k : Int) ∧ wx = w5.drewN m) (fun i _ => P - (intOf i).toNat)
  case atStart => exact ⟨0, 0, Nat.zero_le _, rfl, rfl⟩
  case round =>
    obtain ⟨k, m, hk, rfl, rfl⟩ := hrel
    by_cases hkP : k < P
    · have hkP' : (k : Int) < (P : Int) := by omega
      by_cases hkn : k < P
      · have hkn' : (k : Int) < (P : Int) := by omega
        obtain ⟨x, hx⟩ : ∃ x, x = zs.getD (o + k) 0 := ⟨_, rfl⟩
        have hck := (HR.out k).trans (NL.out k hkn)
        have hdk := HD.out (o + k) (by omega)
        rw [← hx] at hck hdk
        clear hx
        have hok : (o : Int) + (k : Int) < (L : Int) := by omega
        have how : IntKind.i64.wrap ((o : Int) + (k : Int)) = (o : Int) + (k : Int) := by rw [IntKind.wrap_i64]; omega
        have hot : ((o : Int) + (k : Int)).toNat = o + k := by omega
        go_wp2
        go_quiet (fail)
        go_wp2
        go_roundw
        case rel => exact ⟨k + 1, _, by omega, by go_num, rfl⟩
        case measure => simp [intOf]; omega
      · exact absurd hkP hkn
    · clear HD HR NL NH
      go_wp2
      all_goals (go_ret; exact ⟨rfl, (law_below G).trans ⟨rfl, rfl, rfl, Nat.le_refl _, fun _ _ => rfl⟩⟩)

end Go.Proofs.YbulkcymuDoor.Rd
