import Derived.Test.YbulkcyimModelFns
namespace Go.Proofs.Ybulkcyim.Model
open Go.RowKit Go.Proofs.Ybulkcyim.Hex
set_option linter.unusedVariables false

theorem info5 : (Yba.prog.info? 5).map (fun i => (i.zero, i.size, i.bytes)) = some (some (.int .u8 0), 1, 1) := by kernel_rfl

def tabL : List Int := [117, 48, 49, 50, 51, 52, 53, 54, 55, 56, 57, 97, 98, 99, 100, 101, 102, 65, 66, 67, 68, 69, 70, 103, 120, 122, 85, 92, 34]
/-- The byte that a code stands for. -/
def tb (c : Int) : Int := tabL.getD (c % 29).toNat 0
theorem tb_eq (c : Int) (h : (c % 29).toNat < (ByteArray.mk #[117, 48, 49, 50, 51, 52, 53, 54, 55, 56, 57, 97, 98, 99, 100, 101, 102, 65, 66, 67, 68, 69, 70, 103, 120, 122, 85, 92, 34]).size) :
    (((ByteArray.mk #[117, 48, 49, 50, 51, 52, 53, 54, 55, 56, 57, 97, 98, 99, 100, 101, 102, 65, 66, 67, 68, 69, 70, 103, 120, 122, 85, 92, 34])[(c % 29).toNat]'h).toNat : Int) = tb c := by
  unfold tb
  generalize (c % 29).toNat = m at h
  have hm : m < 29 := h
  have key : ∀ m : Fin 29, (((#[117, 48, 49, 50, 51, 52, 53, 54, 55, 56, 57, 97, 98, 99, 100, 101, 102, 65, 66, 67, 68, 69, 70, 103, 120, 122, 85, 92, 34] : Array UInt8)[m.val]'(m.isLt)).toNat : Int) = tabL.getD m.val 0 := by decide
  exact key ⟨m, hm⟩
theorem tb_bd (c : Int) : 0 ≤ tb c ∧ tb c ≤ 255 := by
  unfold tb
  generalize (c % 29).toNat = m
  rcases Nat.lt_or_ge m 29 with h | h
  · have key : ∀ m : Fin 29, 0 ≤ tabL.getD m.val 0 ∧ tabL.getD m.val 0 ≤ 255 := by decide
    exact key ⟨m, h⟩
  · have : tabL.getD m 0 = 0 := by rw [List.getD_eq_getElem?_getD, List.getElem?_eq_none (l := tabL) (by simpa [tabL] using h)]; rfl
    omega

/-- The text's bytes behind k rounds. -/
def mix (T : List Int) (k : Nat) : List Int := T.take k ++ List.replicate (T.length - k) 0
theorem mix_zero (T : List Int) : mix T 0 = List.replicate T.length 0 := by simp [mix]
theorem mix_all (T : List Int) : mix T T.length = T := by simp [mix]
theorem mix_length (T : List Int) (k : Nat) (h : k ≤ T.length) : (mix T k).length = T.length := by simp [mix]; omega
theorem mix_get (T : List Int) (k j : Nat) (h : k ≤ T.length) : (mix T k)[j]? = if j < T.length then some (if j < k then T.getD j 0 else 0) else none := by
  unfold mix
  rw [List.getElem?_append, List.length_take, show min k T.length = k by omega, List.getElem?_take, List.getElem?_replicate]
  by_cases hj : j < k
  · rw [if_pos hj, if_pos hj, if_pos (by omega), if_pos hj, List.getElem?_eq_getElem (by omega)]
    simp [List.getD, List.getElem?_eq_getElem (by omega : j < T.length)]
  · rw [if_neg hj, if_neg hj]
    by_cases hjl : j < T.length
    · rw [if_pos (by omega), if_pos hjl]
    · rw [if_neg (by omega), if_neg hjl]
theorem mix_set (T : List Int) (k : Nat) (h : k < T.length) : ((mix T k).map (Value.int .u8)).set k (.int .u8 (T.getD k 0)) = (mix T (k + 1)).map (Value.int .u8) := by
  rw [← List.map_set]
  congr 1
  apply List.ext_getElem?
  intro j
  rw [List.getElem?_set, mix_get T k j (by omega), mix_get T (k + 1) j (by omega), mix_length T k (by omega)]
  by_cases hj : k = j
  · subst hj
    rw [if_pos rfl, if_pos h, if_pos h, if_pos (by omega)]
  · rw [if_neg hj]
    by_cases hjk : j < k
    · rw [if_pos (by omega), if_pos hjk, if_pos (by omega), if_pos (by omega)]
    · rw [if_neg hjk, if_neg (by omega : ¬ j < k + 1)]

structure Rel (B n : Nat) (T : List Int) (w : World) (k : Nat) (wr : World) : Prop where
  own : wr.ownsRow B 5 1 (.slice (some ⟨B, 0, none⟩) n n) n ((mix T k).map (Value.int .u8))
  below : Below B w wr

theorem getD_bd {zs : List Int} (i : Nat) : 0 ≤ (zs.map tb).getD i 0 ∧ (zs.map tb).getD i 0 ≤ 255 := by
  rcases Nat.lt_or_ge i zs.length with hi | hi
  · simp only [List.getD_eq_getElem?_getD, List.getElem?_map, List.getElem?_eq_getElem hi]; exact tb_bd _
  · simp [List.getElem?_eq_none hi]
theorem mix_cell (T : List Int) (i : Nat) (h : i < T.length) : ((mix T T.length).map (Value.int .u8))[i]? = some (.int .u8 (T.getD i 0)) := by
  rw [mix_all]; simp [List.getD, h]
/-- The two calls over the finished text. -/
theorem text_facts {n st : Nat} {zs : List Int} {w wr : World} (hz : zs.length = n) (hn : n ≤ 4096) (R : Rel w.heap.size n (zs.map tb) w n wr) (hst : st ≤ n) :
    (Calls Yba.prog 8 #[.pointer (some ⟨wr.heap.size, 0, none⟩)] (wr.alloc (.cells #[.slice (some ⟨w.heap.size, 0, none⟩) n n, .int .i64 (st : Int), .slice none 0 0] 46))
      fun e w' => e = .returned (.int .i32 (hex4F (zs.map tb) st).1) ∧ Moved wr.heap.size (wr.alloc (.cells #[.slice (some ⟨w.heap.size, 0, none⟩) n n, .int .i64 (st : Int), .slice none 0 0] 46)) w' (hex4F (zs.map tb) st).2) ∧
    ∀ w6, Moved wr.heap.size (wr.alloc (.cells #[.slice (some ⟨w.heap.size, 0, none⟩) n n, .int .i64 (st : Int), .slice none 0 0] 46)) w6 (hex4F (zs.map tb) st).2 →
      w6.cell? ⟨wr.heap.size, 0, none⟩ = some (.slice (some ⟨w.heap.size, 0, none⟩) n n) ∧ w6.cell? ⟨wr.heap.size, 2, none⟩ = some (.slice none 0 0) ∧
      (Calls Yba.prog 9 #[.slice (some ⟨w.heap.size, 0, none⟩) n n, .int .i64 (st : Int)] w6 fun e w' => e = .returned (.tuple #[.int .i32 (hex4F (zs.map tb) st).1, .int .i64 ((hex4F (zs.map tb) st).2 : Int)]) ∧ w6 = w') ∧
      Hid (∀ i, i < n → w6.cell? ⟨w.heap.size, i, none⟩ = some (.int .u8 ((zs.map tb).getD i 0))) ∧ Below w.heap.size w w6 := by
  have hbs := (R.own.lt w.heap.size rfl).2
  have hl : (zs.map tb).length = n := by simp [hz]
  have hcell : ∀ i, i < n → wr.cell? ⟨w.heap.size, i, none⟩ = some (.int .u8 ((zs.map tb).getD i 0)) := fun i hi => by
    have := mix_cell (zs.map tb) i (by omega)
    rw [hl] at this
    rw [R.own.cellAt i (by omega), this]
  refine ⟨hex4_any wr.heap.size w.heap.size 0 n n st (zs.map tb) _ (by simp [go_sem]) (by simp [go_sem]) (by simp [go_sem]) hl hst (by omega) getD_bd (by omega) (fun i hi => by
    rw [Nat.zero_add, World.cell?_alloc_past _ _ _ hbs]; exact hcell i hi), fun w6 hM => ?_⟩
  have h6 : ∀ i, i < n → w6.cell? ⟨w.heap.size, i, none⟩ = some (.int .u8 ((zs.map tb).getD i 0)) := fun i hi => by
    rw [hM.cell w.heap.size i (by omega), World.cell?_alloc_past _ _ _ hbs]; exact hcell i hi
  refine ⟨(hM.cell _ 0 (by omega)).trans (by simp [go_sem]), (hM.cell _ 2 (by omega)).trans (by simp [go_sem]), ?_, h6, ?_⟩
  · exact model_any w.heap.size n n st (zs.map tb) w6 hl hst (by omega) getD_bd h6
  · exact (R.below.alloc (by omega) _).trans (hM.below _ (by omega))

set_option maxHeartbeats 1000000 in
theorem walk_main (ao : Option Addr) (b off n cap : Nat) (zs : List Int) (pos : Int) (w : World) (hn : n ≤ 4096) (hao : 0 < n → ao = some ⟨b, off, none⟩)
    (hz : zs.length = n) (hbb : 0 < n → b < w.heap.size) (hzb : ∀ i, 0 ≤ zs.getD i 0 ∧ zs.getD i 0 ≤ 255)
    (hc : ∀ i, i < n → w.cell? ⟨b, off + i, none⟩ = some (.int .u8 (zs.getD i 0))) (hp0 : 0 ≤ pos) (hp1 : pos ≤ 18446744073709551615) :
    Calls Yba.prog 5 #[.slice ao n cap, .int .u64 pos] w fun e w' => e = .returned (.bool true) ∧ Below w.heap.size w w' := by
  obtain ⟨i0, hi, hz0, hz1, hz2⟩ := info_parts info5
  have HC : Hid (∀ i, i < n → w.cell? ⟨b, off + i, none⟩ = some (.int .u8 (zs.getD i 0))) := hc
  have HB : Hid (∀ i, 0 ≤ zs.getD i 0 ∧ zs.getD i 0 ≤ 255) := hzb
  have HA : Hid (0 < n → ao = some ⟨b, off, none⟩) := hao
  have HBB : Hid (0 < n → b < w.heap.size) := hbb
  clear hc hzb hao hbb
  have g0 : ¬ (4096 : Int) < (n : Int) := by omega
  go_enter Yba.func5, Yba.ntmps5
  go_wp2_with (at_make; refine wpList_make_full _ rfl _ _ 42 rfl w.heap.size 5 i0 (.int .u8 0) 1 Yba.underlying42 hi hz0 hz1 .i64 .i64 _ _ n rfl rfl rfl rfl (by rw [hz2]; omega) (by unfold maxLen; omega) (by simp) ?_; intro w1 own1 gr1)
  have R0 : Rel w.heap.size n (zs.map tb) w 0 w1 := ⟨by
    rw [mix_zero, List.length_map, hz, List.map_replicate]
    rw [Nat.mul_one, show (Value.int IntKind.u8 0).cells = #[.int .u8 0] from rfl, toList_madeCells_one] at own1
    exact own1, (Below.refl _ _).grown gr1 (Nat.le_refl _) (by intro k h; cases h)⟩
  clear own1 gr1
  go_loopw [22] (fun i wr => ∃ k : Nat, k ≤ n ∧ i = .int .i64 (k : Int) ∧ Rel w.heap.size n (zs.map tb) w k wr) (fun i _ => n - (intOf i).toNat)
  case atStart => exact ⟨0, Nat.zero_le _, rfl, R0⟩
  case round =>
    obtain ⟨k, hk, rfl, R⟩ := hrel
    by_cases hkn : k < n
    · obtain rfl := HA.out (by omega)
      have hTl : (zs.map tb).length = n := by simp [hz]
      have hcx := (R.below.cell (p := ⟨b, off + k, none⟩) (HBB.out (by omega))).trans (HC.out k hkn)
      obtain ⟨c, hc⟩ : ∃ c, c = zs.getD k 0 := ⟨_, rfl⟩
      have hcb := HB.out k
      rw [← hc] at hcx hcb
      obtain ⟨x, hx⟩ : ∃ x, x = tb c := ⟨_, rfl⟩
      have hxr := tb_eq c
      rw [← hx] at hxr
      have hTx : (zs.map tb).getD k 0 = x := by simp [List.getD, List.getElem?_eq_getElem (by omega : k < zs.length)] at hc ⊢; rw [hx, hc]
      have hst := R.own.stored k (.int .u8 x)
      rw [show (Value.int IntKind.u8 x) = .int .u8 ((zs.map tb).getD k 0) by rw [hTx], mix_set _ k (by omega), hTx] at hst
      have R1 : Rel w.heap.size n (zs.map tb) w (k + 1) (wr.setCell ⟨w.heap.size, k, none⟩ (.int .u8 x)) := ⟨hst.1, R.below.setCell (Nat.le_refl _) _⟩
      have ht1 : ∃ v, wr.cell? ⟨w.heap.size, k, none⟩ = some v := by
        rw [R.own.cellAt k (by omega), List.getElem?_map, mix_get _ k k (by omega), if_pos (by omega)]; exact ⟨_, rfl⟩
      obtain ⟨v, hv⟩ := ht1
      have hfz := R.own.frozenAt k
      clear hst hTx hx hc
      go_wp2
      go_roundw
      case rel => exact ⟨k + 1, by omega, by go_num, R1⟩
      case measure => simp [intOf]; omega
    · obtain rfl : k = n := by omega
      obtain ⟨st, hst, hsn⟩ : ∃ st : Nat, pos % ((k : Int) + 1) = (st : Int) ∧ st ≤ k := by
        have m1 := Int.emod_nonneg pos (show ((k : Int) + 1) ≠ 0 by omega)
        have m2 := Int.emod_lt_of_pos pos (show 0 < ((k : Int) + 1) by omega)
        exact ⟨(pos % ((k : Int) + 1)).toNat, by omega, by omega⟩
      have F := text_facts (st := st) hz hn R hsn
      have hbs := (R.own.lt w.heap.size rfl).2
      have hnil := fun w' => run_neq_slice_nil_any (P := Yba.prog) w' 42 5 none 0 0 0 0 Yba.underlying42
      simp only [Option.isNone_none, Bool.not_true] at hnil
      obtain ⟨r, q, hq⟩ : ∃ r q, hex4F (zs.map tb) st = (r, q) := ⟨_, _, rfl⟩
      rw [hq] at F
      obtain ⟨F1, F2⟩ := F
      clear hq
      go_wp2_with (first
        | (go_at_call 8; refine F1.mono ?_; rintro e w6 ⟨rfl, hM⟩; have F3 := F2 w6 hM; have p6 := hM.pos; have t6 := F3.1; have n6 := F3.2.1)
        | (go_at_call 9; refine (F3.2.2.1).mono ?_; rintro e w7 ⟨rfl, rfl⟩))
      obtain ⟨wo, rfl⟩ : ∃ wo : World, wo = wr := ⟨_, rfl⟩
      have H6 := F3.2.2.2.1
      have B6 := F3.2.2.2.2
      clear F1 F2 F3 hM p6 n6 hnil hst R0 R
      go_loopw [13] (fun i wx => ∃ j m : Nat, j ≤ k ∧ i = .int .i64 (j : Int) ∧ wx = w6.drewN m) (fun i _ => k - (intOf i).toNat)
      case atStart => exact ⟨0, 0, Nat.zero_le _, rfl, rfl⟩
      case round =>
        obtain ⟨j, m, hj, rfl, rfl⟩ := hrel
        by_cases hjk : j < k
        · obtain rfl := HA.out (by omega)
          have hjk' : (j : Int) < (k : Int) := by omega
          have hcx := (B6.cell (p := ⟨b, off + j, none⟩) (HBB.out (by omega))).trans (HC.out j hjk)
          have htx := H6.out j hjk
          obtain ⟨c, hc⟩ : ∃ c, c = zs.getD j 0 := ⟨_, rfl⟩
          have hcb := HB.out j
          rw [← hc] at hcx hcb
          obtain ⟨x, hx⟩ : ∃ x, x = tb c := ⟨_, rfl⟩
          have hxr := tb_eq c
          rw [← hx] at hxr
          have hTx : (zs.map tb).getD j 0 = x := by simp [List.getD, List.getElem?_eq_getElem (by omega : j < zs.length)] at hc ⊢; rw [hx, hc]
          rw [hTx] at htx
          clear hTx hx hc
          go_wp2
          go_quiet (fail)
          go_wp2
          go_roundw
          case rel => exact ⟨j + 1, _, by omega, by go_num, rfl⟩
          case measure => simp [intOf]; omega
        · go_wp2
          go_ret
          exact ⟨rfl, B6.trans ⟨rfl, rfl, rfl, Nat.le_refl _, fun _ _ => rfl⟩⟩

set_option maxHeartbeats 400000 in
theorem walk_long (ao : Option Addr) (n cap : Nat) (pos : Int) (w : World) (hn : 4096 < n) :
    Calls Yba.prog 5 #[.slice ao n cap, .int .u64 pos] w fun e w' => e = .returned (.bool true) ∧ Below w.heap.size w w' := by
  have g0 : (4096 : Int) < (n : Int) := by omega
  go_enter Yba.func5, Yba.ntmps5
  go_wp2
  go_ret
  exact ⟨rfl, Below.refl _ _⟩
end Go.Proofs.Ybulkcyim.Model
