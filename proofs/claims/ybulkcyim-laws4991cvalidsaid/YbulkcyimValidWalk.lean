import Derived.Test.YbulkcyimHex
import Derived.Room.AppendFits
namespace Go.Proofs.Ybulkcyim.Valid
open Go.RowKit Go.Proofs.Ybulkcyim.Hex
set_option linter.unusedVariables false

theorem info5 : (Yba.prog.info? 5).map (fun i => (i.zero, i.size, i.bytes)) = some (some (.int .u8 0), 1, 1) := by kernel_rfl

/-- A string's bytes as numbers. -/
def byts (s : ByteArray) : List Int := s.data.toList.map fun b => (b.toNat : Int)
theorem byts_length (s : ByteArray) : (byts s).length = s.size := by
  unfold byts; rw [List.length_map, Array.length_toList]; rfl
theorem strCells_byts (s : ByteArray) : Lib.strCells s = (byts s).map (Value.int .u8) := by
  unfold Lib.strCells byts; simp
def valOf (ns : List Int) : Int := ns.foldl (fun r d => r * 16 + d) 0

/-- What the loop's relation says. -/
structure Rel (B cap : Nat) (s0 : ByteArray) (w0 : World) (k : Nat) (D ns : List Int) (wr : World) : Prop where
  dl : D.length = k
  nl : ns.length = k
  hd : D.map hexv = ns.map some
  own : wr.ownsRow (B + 1) 5 1 (.slice (some ⟨B + 1, 0, none⟩) (s0.size + 1 + k) cap) (s0.size + 1 + k) ((byts s0 ++ 117 :: D).map (Value.int .u8))
  below : Below (B + 1) w0 wr
  size : B + 1 < wr.heap.size

theorem rel_start {w w1 w2 w3 : World} {s0 : ByteArray} {cap : Nat} {o : Obj} {o2 : Obj}
    (own1 : w1.ownsRow (w.heap.size + 1) 5 1 (.slice (some ⟨w.heap.size + 1, 0, none⟩) 0 cap) 0 [])
    (own2 : w2.ownsRow (w.heap.size + 1) 5 1 (.slice (some ⟨w.heap.size + 1, 0, none⟩) s0.size cap) s0.size (Lib.strCells s0))
    (own3 : w3.ownsRow (w.heap.size + 1) 5 1 (.slice (some ⟨w.heap.size + 1, 0, none⟩) (s0.size + 1) cap) (s0.size + 1) (Lib.strCells s0 ++ [.int .u8 117]))
    (gr1 : (w.alloc o).grownBy w1 none) (gr2 : w1.grownBy w2 (Value.ownBlock (.slice (some ⟨w.heap.size + 1, 0, none⟩) 0 cap))) (gr3 : (w2.alloc o2).grownBy w3 (some (w.heap.size + 1))) :
    Rel w.heap.size cap s0 (w.alloc o) 0 [] [] w3 := by
  have s1 := (own1.lt (w.heap.size + 1) rfl).2
  have s2 := (own2.lt (w.heap.size + 1) rfl).2
  have s3 := (own3.lt (w.heap.size + 1) rfl).2
  have b1 : Below (w.heap.size + 1) (w.alloc o) w1 := (Below.refl _ _).grown gr1 (by simp) (by intro k h; cases h)
  have b2 : Below (w.heap.size + 1) (w.alloc o) w2 := b1.grown gr2 (by omega) (by intro k h; simp [Value.ownBlock] at h; omega)
  have b3 : Below (w.heap.size + 1) (w.alloc o) w3 := (b2.alloc (by omega) o2).grown gr3 (by simp; omega) (by intro k h; simp at h; omega)
  exact ⟨rfl, rfl, rfl, by simpa [strCells_byts] using own3, b3, s3⟩

theorem nib_cell {w wr : World} {a0 a1 a2 a3 : Int} {k : Nat} (hb : Below (w.heap.size + 1) (w.alloc (.cells #[.int .u8 a0, .int .u8 a1, .int .u8 a2, .int .u8 a3] 51)) wr)
    (b0 : 0 ≤ a0 ∧ a0 ≤ 255) (b1 : 0 ≤ a1 ∧ a1 ≤ 255) (b2 : 0 ≤ a2 ∧ a2 ≤ 255) (b3 : 0 ≤ a3 ∧ a3 ≤ 255) (hk : k < 4) :
    ∃ x : Int, 0 ≤ x ∧ x ≤ 255 ∧ wr.cell? ⟨w.heap.size, k, none⟩ = some (.int .u8 x) := by
  have hc : wr.cell? ⟨w.heap.size, k, none⟩ = _ := hb.cell (by simp)
  match k, hk with
  | 0, _ => exact ⟨a0, b0.1, b0.2, hc.trans (by simp [go_sem])⟩
  | 1, _ => exact ⟨a1, b1.1, b1.2, hc.trans (by simp [go_sem])⟩
  | 2, _ => exact ⟨a2, b2.1, b2.2, hc.trans (by simp [go_sem])⟩
  | 3, _ => exact ⟨a3, b3.1, b3.2, hc.trans (by simp [go_sem])⟩

theorem up_tab (n : Int) (h0 : 0 ≤ n) (h1 : n < 16) (h : n.toNat < (ByteArray.mk #[48, 49, 50, 51, 52, 53, 54, 55, 56, 57, 65, 66, 67, 68, 69, 70]).size) :
    hexv (((ByteArray.mk #[48, 49, 50, 51, 52, 53, 54, 55, 56, 57, 65, 66, 67, 68, 69, 70])[n.toNat]'h).toNat : Int) = some n := by
  obtain ⟨m, rfl⟩ := Int.eq_ofNat_of_zero_le h0
  have hm : m < 16 := by omega
  have key : ∀ m : Fin 16, hexv (((#[48, 49, 50, 51, 52, 53, 54, 55, 56, 57, 65, 66, 67, 68, 69, 70] : Array UInt8)[m.val]'(m.isLt)).toNat : Int) = some (m.val : Int) := by decide
  exact key ⟨m, hm⟩
theorem lo_tab (n : Int) (h0 : 0 ≤ n) (h1 : n < 16) (h : n.toNat < (ByteArray.mk #[48, 49, 50, 51, 52, 53, 54, 55, 56, 57, 97, 98, 99, 100, 101, 102]).size) :
    hexv (((ByteArray.mk #[48, 49, 50, 51, 52, 53, 54, 55, 56, 57, 97, 98, 99, 100, 101, 102])[n.toNat]'h).toNat : Int) = some n := by
  obtain ⟨m, rfl⟩ := Int.eq_ofNat_of_zero_le h0
  have hm : m < 16 := by omega
  have key : ∀ m : Fin 16, hexv (((#[48, 49, 50, 51, 52, 53, 54, 55, 56, 57, 97, 98, 99, 100, 101, 102] : Array UInt8)[m.val]'(m.isLt)).toNat : Int) = some (m.val : Int) := by decide
  exact key ⟨m, hm⟩
theorem val_next {r n : Int} {ns : List Int} (h : r = valOf ns) : valOf (ns ++ [n]) = r * 16 + n := by
  unfold valOf at *; rw [List.foldl_append, ← h]; rfl
theorem rel_next {B cap : Nat} {s0 : ByteArray} {w0 wr w4 : World} {k : Nat} {D ns : List Int} {c n : Int} {o : Obj} (R : Rel B cap s0 w0 k D ns wr)
    (own4 : w4.ownsRow (B + 1) 5 1 (.slice (some ⟨B + 1, 0, none⟩) (s0.size + 1 + k + 1) cap) (s0.size + 1 + k + 1) ((byts s0 ++ 117 :: D).map (Value.int .u8) ++ [.int .u8 c]))
    (gr4 : (wr.alloc o).grownBy w4 (some (B + 1))) (hc : hexv c = some n) : Rel B cap s0 w0 (k + 1) (D ++ [c]) (ns ++ [n]) w4 := by
  have s4 := (own4.lt (B + 1) rfl).2
  have hs := R.size
  exact ⟨by simp [R.dl], by simp [R.nl], by simp [R.hd, hc], by rw [← Nat.add_assoc]; simpa using own4, (R.below.alloc (by omega) o).grown gr4 (by simp; omega) (by intro k h; simp at h; omega), s4⟩

theorem hexL_fold {zs suf : List Int} : ∀ (ns D : List Int) (p : Nat) (r : Int), zs.drop p = D ++ suf → D.map hexv = ns.map some → hexL zs ns.length p r = (ns.foldl (fun r d => r * 16 + d) r, p + ns.length)
  | [], D, p, r, _, _ => rfl
  | n :: ns, D, p, r, hd, hv => by
    match D, hv with
    | c :: D', hv =>
      simp only [List.map_cons, List.cons.injEq] at hv
      have hc : zs.getD p 0 = c := by
        have := congrArg (fun l => l.head?) hd
        simp [List.head?_drop] at this
        simp [List.getD, this]
      have hd' : zs.drop (p + 1) = D' ++ suf := by
        have := congrArg List.tail hd
        simpa [List.tail_drop] using this
      rw [List.length_cons, hexL, hc, hv.1]
      show hexL zs ns.length (p + 1) (r * 16 + n) = _
      rw [hexL_fold ns D' (p + 1) (r * 16 + n) hd' hv.2, List.foldl_cons]
      congr 1
      omega
theorem byts_bd (s : ByteArray) : ∀ x ∈ byts s, 0 ≤ x ∧ x ≤ 255 := by
  intro x hx
  obtain ⟨b, _, rfl⟩ := List.mem_map.1 hx
  have := b.toNat_lt
  omega
theorem hexv_byte {y d : Int} (h : hexv y = some d) : 0 ≤ y ∧ y ≤ 255 := by
  unfold hexv at h
  split at h
  · omega
  split at h
  · omega
  split at h
  · omega
  · cases h
theorem D_bd {D ns : List Int} (h : D.map hexv = ns.map some) : ∀ x ∈ D, 0 ≤ x ∧ x ≤ 255 := by
  intro x hx
  have : hexv x ∈ ns.map some := by rw [← h]; exact List.mem_map_of_mem hx
  obtain ⟨d, _, hd⟩ := List.mem_map.1 this
  exact hexv_byte hd.symm
theorem getD_bd {zs : List Int} (h : ∀ x ∈ zs, 0 ≤ x ∧ x ≤ 255) (i : Nat) : 0 ≤ zs.getD i 0 ∧ zs.getD i 0 ≤ 255 := by
  rcases Nat.lt_or_ge i zs.length with hi | hi
  · rw [List.getD_eq_getElem?_getD, List.getElem?_eq_getElem hi]; exact h _ (List.getElem_mem hi)
  · rw [List.getD_eq_getElem?_getD, List.getElem?_eq_none hi]; simp

theorem map_getD (zs : List Int) (i : Nat) (h : i < zs.length) : (zs.map (Value.int .u8))[i]? = some (.int .u8 (zs.getD i 0)) := by
  simp [List.getD, h]
/-- hex4 over the finished text. -/
theorem text_hex {B cap : Nat} {s0 s1 : ByteArray} {w0 wr w5 : World} {D ns : List Int} {r : Int} (R : Rel B cap s0 w0 4 D ns wr) (hr : r = valOf ns)
    (own5 : w5.ownsRow (B + 1) 5 1 (.slice (some ⟨B + 1, 0, none⟩) (s0.size + 1 + 4 + s1.size) cap) (s0.size + 1 + 4 + s1.size) ((byts s0 ++ 117 :: D).map (Value.int .u8) ++ Lib.strCells s1))
    (h0 : s0.size ≤ 1024) (h1 : s1.size ≤ 1024) :
    Calls Yba.prog 8 #[.pointer (some ⟨w5.heap.size, 0, none⟩)] (w5.alloc (.cells #[.slice (some ⟨B + 1, 0, none⟩) (s0.size + 1 + 4 + s1.size) cap, .int .i64 (s0.size : Int), .slice none 0 0] 46))
      fun e w' => e = .returned (.int .i32 r) ∧ Moved w5.heap.size (w5.alloc (.cells #[.slice (some ⟨B + 1, 0, none⟩) (s0.size + 1 + 4 + s1.size) cap, .int .i64 (s0.size : Int), .slice none 0 0] 46)) w' (s0.size + 5) := by
  have s5 := (own5.lt (B + 1) rfl).2
  have hbs := byts_length s0
  have hbs1 := byts_length s1
  have hdl := R.dl
  have hnl := R.nl
  have hlen : (byts s0 ++ 117 :: D ++ byts s1).length = s0.size + 1 + 4 + s1.size := by simp [hbs, hbs1, hdl]; omega
  have hex : hex4F (byts s0 ++ 117 :: D ++ byts s1) s0.size = (r, s0.size + 5) := by
    have e1 : (byts s0 ++ 117 :: D ++ byts s1).getD s0.size 0 = 117 := by
      simp [List.getD, ← hbs]
    have e2 : (byts s0 ++ 117 :: D ++ byts s1).drop (s0.size + 1) = D ++ byts s1 := by
      rw [← hbs, List.append_assoc, List.drop_append]; simp
    unfold hex4F
    rw [if_pos e1, show 4 = ns.length by omega, hexL_fold ns D _ 0 e2 R.hd, hr, hnl]
    rfl
  have key := hex4_any w5.heap.size (B + 1) 0 (s0.size + 1 + 4 + s1.size) cap s0.size (byts s0 ++ 117 :: D ++ byts s1) (w5.alloc (.cells #[.slice (some ⟨B + 1, 0, none⟩) (s0.size + 1 + 4 + s1.size) cap, .int .i64 (s0.size : Int), .slice none 0 0] 46))
    (by simp [go_sem]) (by simp [go_sem]) (by simp [go_sem]) hlen (by omega) (by omega)
    (getD_bd (by
      intro x hx
      simp only [List.mem_append, List.mem_cons] at hx
      rcases hx with (hx | rfl | hx) | hx
      · exact byts_bd _ _ hx
      · omega
      · exact D_bd R.hd _ hx
      · exact byts_bd _ _ hx)) (by omega)
    (fun i hi => by
      rw [Nat.zero_add, World.cell?_alloc_past _ _ _ s5, own5.cellAt i (by omega), strCells_byts, ← List.map_append]
      exact map_getD _ i (by omega))
  rw [hex] at key
  exact key

theorem below_end {w wr w5 w6 : World} {o o2 : Obj} {n cap p : Nat} (hb : Below (w.heap.size + 1) (w.alloc o) wr) (hbs : w.heap.size + 1 < wr.heap.size)
    (gr5 : wr.grownBy w5 (Value.ownBlock (.slice (some ⟨w.heap.size + 1, 0, none⟩) n cap))) (hM : Moved w5.heap.size (w5.alloc o2) w6 p) : Below w.heap.size w w6 := by
  have h1 : Below w.heap.size w wr := ((Below.refl _ w).alloc (Nat.le_refl _) o).trans (hb.mono (by omega))
  have h2 : Below w.heap.size w w5 := h1.grown gr5 (by omega) (by intro k h; simp [Value.ownBlock] at h; omega)
  have hs := gr5.size
  exact (h2.alloc (by omega) o2).trans (hM.below _ (by omega))

set_option maxHeartbeats 400000 in
theorem walk_long (s0 s1 : ByteArray) (a0 a1 a2 a3 up : Int) (w : World) (h : 1024 < s0.size ∨ 1024 < s1.size) :
    Calls Yba.prog 6 #[.string s0, .agg #[.int .u8 a0, .int .u8 a1, .int .u8 a2, .int .u8 a3], .int .u8 up, .string s1] w fun e w' => e = .returned (.bool true) ∧ Below w.heap.size w w' := by
  by_cases g : 1024 < s0.size
  · have g0 : (1024 : Int) < (s0.size : Int) := by omega
    clear h
    go_enter Yba.func6, Yba.ntmps6
    go_wp2
    go_ret
    exact ⟨rfl, (Below.refl _ w).alloc (Nat.le_refl _) _⟩
  · have g0 : ¬ (1024 : Int) < (s0.size : Int) := by omega
    have g1 : (1024 : Int) < (s1.size : Int) := by omega
    clear h
    go_enter Yba.func6, Yba.ntmps6
    go_wp2
    go_ret
    exact ⟨rfl, (Below.refl _ w).alloc (Nat.le_refl _) _⟩

set_option maxHeartbeats 1000000 in
theorem walk_main (s0 s1 : ByteArray) (a0 a1 a2 a3 up : Int) (w : World) (h0 : s0.size ≤ 1024) (h1 : s1.size ≤ 1024)
    (b0 : 0 ≤ a0 ∧ a0 ≤ 255) (b1 : 0 ≤ a1 ∧ a1 ≤ 255) (b2 : 0 ≤ a2 ∧ a2 ≤ 255) (b3 : 0 ≤ a3 ∧ a3 ≤ 255) (hu : 0 ≤ up ∧ up ≤ 255) :
    Calls Yba.prog 6 #[.string s0, .agg #[.int .u8 a0, .int .u8 a1, .int .u8 a2, .int .u8 a3], .int .u8 up, .string s1] w fun e w' => e = .returned (.bool true) ∧ Below w.heap.size w w' := by
  obtain ⟨i0, hi, hz0, hz1, hz2⟩ := info_parts info5
  have g0 : ¬ (1024 : Int) < (s0.size : Int) := by omega
  have g1 : ¬ (1024 : Int) < (s1.size : Int) := by omega
  go_enter Yba.func6, Yba.ntmps6
  go_wp2_with (first
    | (at_make; refine wpList_make_own _ rfl _ _ 42 rfl (w.heap.size + 1) 5 i0 (.int .u8 0) 1 Yba.underlying42 hi hz0 hz1 .i64 .i64 _ (s0.size + 5 + s1.size) rfl rfl (by omega) (by rw [hz2]; omega) (by unfold maxLen; omega) (by simp) ?_; intro w1 own1 gr1; simp only [World.size_alloc] at own1)
    | (at_builtin; (refine Lib.wpList_append_fits_string _ rfl (.tmp 30) (.tmp 31) 42 9 rfl (w.heap.size + 1) 5 i0 Yba.underlying42 Yba.underlying9 hi hz1 _ 0 (s0.size + 5 + s1.size) [] rfl own1 s0 rfl (by omega) (by omega) ?_); intro w2 own2 gr2; simp only [Nat.zero_add, List.nil_append] at own2)
    | (at_builtin; (refine wpList_append_fits _ rfl (.tmp 33) (.tmp 34) 42 rfl (w.heap.size + 1) 5 i0 1 Yba.underlying42 hi hz1 _ s0.size (s0.size + 5 + s1.size) _ rfl (own2.alloc _) ⟨w2.heap.size, 0, none⟩ 1 1 [.int .u8 117] rfl rfl (cell_one_new _ _ _) (ints_oneCell .u8 [117]) (by omega) ?_); intro w3 own3 gr3))
  have hsz3 : w.heap.size + 1 < w3.heap.size := (own3.lt (w.heap.size + 1) rfl).2
  have R0 := rel_start own1 own2 own3 gr1 gr2 gr3
  clear own1 own2 own3 gr1 gr2 gr3
  go_loopw [9, 10, 11] (fun t v i wr => ∃ (k : Nat) (D ns : List Int) (r : Int), k ≤ 4 ∧ i = .int .i64 (k : Int) ∧ t = .slice (some ⟨w.heap.size + 1, 0, none⟩) (s0.size + 1 + k) (s0.size + 5 + s1.size) ∧ v = .int .i64 r ∧ 0 ≤ r ∧ r < ((16 ^ k : Nat) : Int) ∧ Hid (r = valOf ns) ∧
      Rel w.heap.size (s0.size + 5 + s1.size) s0 (w.alloc (.cells #[.int .u8 a0, .int .u8 a1, .int .u8 a2, .int .u8 a3] 51)) k D ns wr) (fun _ _ i _ => 4 - (intOf i).toNat)
  case atStart => exact ⟨0, [], [], 0, by omega, rfl, rfl, rfl, by omega, by decide, rfl, R0⟩
  case round =>
    obtain ⟨k, D, ns, r, hk, rfl, rfl, rfl, hr0, hr1, HR, R⟩ := hrel
    by_cases hk4 : k < 4
    · have hr2 : r ≤ 4095 := by
        have : (16 : Nat) ^ k ≤ 16 ^ 3 := Nat.pow_le_pow_right (by decide) (by omega)
        omega
      obtain ⟨x, hx0, hx1, hcx⟩ := nib_cell R.below b0 b1 b2 b3 hk4
      have own := R.own
      by_cases ht : bits .and .u8 (up / 2 ^ k) 1 = 1
      · go_wp2_with (at_builtin; refine wpList_append_fits _ rfl (.tmp 55) (.tmp 58) 42 rfl (w.heap.size + 1) 5 i0 1 Yba.underlying42 hi hz1 _ (s0.size + 1 + k) (s0.size + 5 + s1.size) _ rfl (own.alloc _) ⟨wr.heap.size, 0, none⟩ 1 1 [.int .u8 _] rfl rfl (cell_one_new _ _ _) (ints_oneCell .u8 [_]) (by omega) ?_; intro w4 own4 gr4)
        go_roundw
        case rel => exact ⟨k + 1, _, _, _, by omega, by go_num, rfl, rfl, by omega, pow_step hr1 (by omega), (val_next HR.out).symm, rel_next R own4 gr4 (up_tab _ (by omega) (by omega) _)⟩
        case measure => simp [intOf]; omega
      · go_wp2_with (at_builtin; refine wpList_append_fits _ rfl (.tmp 60) (.tmp 63) 42 rfl (w.heap.size + 1) 5 i0 1 Yba.underlying42 hi hz1 _ (s0.size + 1 + k) (s0.size + 5 + s1.size) _ rfl (own.alloc _) ⟨wr.heap.size, 0, none⟩ 1 1 [.int .u8 _] rfl rfl (cell_one_new _ _ _) (ints_oneCell .u8 [_]) (by omega) ?_; intro w4 own4 gr4)
        go_roundw
        case rel => exact ⟨k + 1, _, _, _, by omega, by go_num, rfl, rfl, by omega, pow_step hr1 (by omega), (val_next HR.out).symm, rel_next R own4 gr4 (lo_tab _ (by omega) (by omega) _)⟩
        case measure => simp [intOf]; omega
    · obtain rfl : k = 4 := by omega
      have own := R.own
      have hb := R.below
      have hbs := R.size
      have hr3 : r ≤ 65535 := by have : ((16 ^ 4 : Nat) : Int) = 65536 := rfl; omega
      have hH := fun w5 own5 => text_hex (w5 := w5) (s1 := s1) R HR.out own5 (by omega) (by omega)
      clear HR hr1
      go_wp2_with (first
        | (at_builtin; refine Lib.wpList_append_fits_string _ rfl (.tmp 65) (.tmp 66) 42 9 rfl (w.heap.size + 1) 5 i0 Yba.underlying42 Yba.underlying9 hi hz1 _ (s0.size + 1 + 4) (s0.size + 5 + s1.size) _ rfl own s1 rfl (by omega) (by omega) ?_; intro w5 own5 gr5; have hH5 := hH w5 own5)
        | (go_at_call 8; refine hH5.mono ?_; rintro e w6 ⟨rfl, hM6⟩; have c6 := hM6.pos))
      go_ret
      exact ⟨rfl, below_end hb hbs gr5 hM6⟩
end Go.Proofs.Ybulkcyim.Valid
