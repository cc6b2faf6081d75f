import Derived.Test.YbulkcymuDoorLaw3
import Derived.Test.YbulkcymuDoorTie
import Derived.Test.YbulkcymuDoorCards
import Derived.ProofKit
import Derived.OpenShut
import Derived.ShutString
import Derived.ChangeOld
import Derived.ChangeVars
import Derived.JoinedOf
import Derived.LaidLaws
import Derived.Stop.LaidErr
import Derived.SevenTiedAt
import Derived.LaidMore
namespace Go.Proofs.YbulkcymuDoor.readAt
open Go.ChangeShapes Go.WideShapes Go.ChangeAt Go.RowKit
open Go.ChangeMaps (open_string shut_string)
open Go.Proofs.YbulkcymuDoor.Rd
set_option linter.unusedVariables false

theorem own : ownKnob Ybad.prog.godebug = none := by kernel_rfl
theorem laidOut : laidOutB Ybad.prog = true := by kernel_rfl
theorem gE : Ybad.prog.globalNamed "io.EOF" = some 0 := by kernel_rfl
theorem gEType : (Ybad.prog.globals[0]?).map (·.type) = some 26 := by kernel_rfl
theorem cells42 : Ybad.prog.cellsOf 42 = 1 := by kernel_rfl
theorem cells9 : Ybad.prog.cellsOf 9 = 1 := by kernel_rfl
/-- The type's name that the given datum bears. -/
def nameOf : DataW Unit → String
  | .iface nm _ => nm
  | _ => ""
def errName : String := nameOf Rows.laid_io_EOF
theorem row40 (u : TypeId) (h : Ybad.prog.typeName? 3 u = some errName) : u = 40 :=
  typeName_ptr_named (nm := "errors.errorString") (by kernel_rfl) (by kernel_rfl) (by decide) u (h.trans (congrArg some (show errName = _ from by decide)))

/-- What the listed variable gives the walk. -/
theorem eof_of_laid {W : World} (h0 : laidMetH Ybad.prog [("io.EOF", Rows.laid_io_EOF)] W) :
    ∃ (ea : Addr) (cb : Array Value) (tb : TypeId), W.cell? ⟨0, 0, none⟩ = some (.iface 40 (.pointer (some ea))) ∧ W.heap[ea.block]? = some (.cells cb tb (0, 0)) := by
  have h : laidMet Ybad.prog [("io.EOF", .iface errName (.ptr (.agg [.lit (.string [69, 79, 70])])))] W := h0
  obtain ⟨ps, ⟨g0, t0, cs0, f0, p0, q0, hg0, ht0, hv0, hd0, _, e0⟩, _, hrows⟩ := h
  obtain rfl := Option.some.inj (gE.symm.trans hg0)
  obtain rfl := Option.some.inj (gEType.symm.trans ht0)
  subst e0
  obtain ⟨l0⟩ := cs0
  have ok0 : ∀ u v, l0 = [.iface u v] → Value.okWide Ybad.prog W .any 0 u v := fun u v e => by
    subst e
    exact (hrows 0 0 (by simp [MemPlace.row])).2 u v (by simpa using World.var?_cell hg0 hv0 0)
  obtain ⟨a0, s0, rfl, hc0, hs0, hz0, rfl⟩ := errorString_of_trod Ybad.underlying26 row40 Ybad.underlying40 Ybad.underlying42 rfl rfl Ybad.underlying9 cells42 cells9 hd0 ok0
  obtain ⟨c0, t0, hb0⟩ := (hrows a0.block a0.off (by simp [MemPlace.row])).1
  exact ⟨a0, c0, t0, by simpa using World.var?_cell hg0 hv0 0, hb0⟩

def IsRow (k : IntKind) (w : World) (a : Option Addr) (len cap : Nat) (zs : List Int) : Prop :=
  (a = none ∧ len = 0 ∧ cap = 0 ∧ zs = []) ∨
  ∃ x, a = some x ∧ len ≤ cap ∧ cap ≤ maxLen ∧ zs.length = cap ∧ (∀ i, i < zs.length → w.cell? (x.add i) = some (.int k (zs.getD i 0))) ∧ ∀ n ∈ zs, (Lit.int k n).wf = true

theorem lt_of_cell {w : World} {b o : Nat} {v : Value} (h : w.cell? ⟨b, o, none⟩ = some v) : b < w.heap.size := by
  rcases Nat.lt_or_ge b w.heap.size with h' | h'
  · exact h'
  · simp [World.cell?, Array.getElem?_eq_none h'] at h

set_option maxRecDepth 100000 in
set_option maxHeartbeats 400000 in
theorem law_long (ao : Option Addr) (L cap : Nat) (size off a3 : Int) (what : ByteArray) (w : World) (hL : 1024 < L) :
    Calls Ybad.prog 3 #[.slice ao L cap, .int .i64 size, .int .i64 off, .int .u16 a3, .string what] w fun e w' => e = .returned (.bool true) ∧ Below w.heap.size w w' := by
  have g0 : (1024 : Int) < (L : Int) := by omega
  go_enter Ybad.func3, Ybad.ntmps3
  go_wp2
  go_ret
  exact ⟨rfl, Below.refl _ _⟩

theorem made_size (P : Nat) : (madeCells #[Value.int .u8 0] P).size = P := by
  have := congrArg List.length (toList_madeCells_one (.int .u8 0) P)
  simpa using this
theorem made_get (P i : Nat) (h : i < P) : (madeCells #[Value.int .u8 0] P)[i]? = some (.int .u8 0) := by
  rw [← Array.getElem?_toList, toList_madeCells_one, List.getElem?_replicate, if_pos h]

theorem law_lh {w : World} {ao : Option Addr} {db doff L cap : Nat} {ea : Addr} {zs : List Int} (h : LH w ao db doff L cap ea zs) (size off a3 : Int) (what : ByteArray) (hs1 : size ≤ 9223372036854775807) (ho2 : off ≤ 9223372036854775807) (h3 : 0 ≤ a3)
    {cb : Array Value} {tb : TypeId} (hbe : w.heap[ea.block]? = some (.cells cb tb (0, 0))) :
    Calls Ybad.prog 3 #[.slice ao L cap, .int .i64 size, .int .i64 off, .int .u16 a3, .string what] w fun e w' => e = .returned (.bool true) ∧ Below w.heap.size w w' := by
  obtain ⟨P, hP⟩ : ∃ P : Nat, a3 % 300 = (P : Int) := ⟨(a3 % 300).toNat, by omega⟩
  have hP2 : P ≤ 300 := by omega
  have hmk := make_p P (by omega)
  have hc := made_size P
  have hz := made_get P
  by_cases h1 : off < 0
  · exact law_neg ao db doff L cap P ea zs _ size off a3 what w h hP h3 hP2 hc hmk hbe h1
  obtain ⟨o, rfl⟩ : ∃ o : Nat, off = (o : Int) := ⟨off.toNat, by omega⟩
  by_cases h2 : L ≤ o
  · by_cases h4 : size ≤ (o : Int)
    · exact law_past ao db doff L cap P ea zs _ size o a3 what w h hP h3 hP2 hc hz hmk (by omega) h4 ho2
    · exact law_cut ao db doff L cap P ea zs _ size a3 o what w h hP h3 hP2 hc hz hmk h2 (by omega) hs1
  · by_cases h5 : L - o < P
    · by_cases h6 : size ≤ (L : Int)
      · exact law_short_eof ao db doff L cap P ea zs _ size a3 o what w h hP h3 hP2 hc hz hmk (by omega) (L - o) (by omega) h5 h6
      · exact law_short_cut ao db doff L cap P ea zs _ size a3 o what w h hP h3 hP2 hc hz hmk (by omega) (L - o) (by omega) h5 (by omega)
    · by_cases h7 : L - o = P
      · exact law_full_eq ao db doff L cap P ea zs _ size a3 o what w h hP h3 hP2 hc hz hmk (by omega) (by omega)
      · exact law_full_lt ao db doff L cap P ea zs _ size a3 o what w h hP h3 hP2 hc hz hmk (by omega) (by omega)

theorem walk (ao : Option Addr) (L cap : Nat) (z0 : List Int) (size off a3 : Int) (what : ByteArray) (w : World) (w0 : IsRow .u8 w ao L cap z0) (hs1 : size ≤ 9223372036854775807) (ho2 : off ≤ 9223372036854775807) (h3 : 0 ≤ a3)
    (hlaid : laidMetH Ybad.prog [("io.EOF", Rows.laid_io_EOF)] w) :
    Calls Ybad.prog 3 #[.slice ao L cap, .int .i64 size, .int .i64 off, .int .u16 a3, .string what] w fun e w' => e = .returned (.bool true) ∧ Below w.heap.size w w' := by
  by_cases hlong : 1024 < L
  · exact law_long ao L cap size off a3 what w hlong
  obtain ⟨ea, cb, tb, hE, hbe⟩ := eof_of_laid hlaid
  have e0 := lt_of_cell hE
  have hea : ea.block < w.heap.size := (Array.getElem?_eq_some_iff.1 hbe).1
  rcases w0 with ⟨rfl, rfl, rfl, rfl⟩ | ⟨x, rfl, hlc, hcm, hzl, hcell, hwf⟩
  · exact law_lh (db := 0) (doff := 0) (L := 0) (cap := 0) (zs := []) ⟨by decide, by decide, fun h => absurd h (by decide), fun h => absurd h (by decide), rfl, hE, e0, hea, fun i h => absurd h (Nat.not_lt_zero i)⟩ size off a3 what hs1 ho2 h3 hbe
  · obtain ⟨b, boff, spot⟩ := x
    have hspot : 0 < L → spot = none := fun h => by simpa [Addr.add] using World.cell?_spot (hcell 0 (by omega))
    have hcc : ∀ i, i < L → w.cell? ⟨b, boff + i, none⟩ = some (.int .u8 ((z0.take L).getD i 0)) := fun i hi => by
      have := hcell i (by omega)
      rw [hspot (by omega), Addr.add_lit] at this
      rw [this]
      simp [List.getD, hi]
    exact law_lh (db := b) (doff := boff) (zs := z0.take L) ⟨by omega, hlc, fun h => lt_of_cell (hcc 0 h), fun h => by rw [hspot h], by simp; omega, hE, e0, hea, hcc⟩ size off a3 what hs1 ho2 h3 hbe

theorem door_met (os : Os) (args : Array Value) : laidMetH Ybad.prog [("io.EOF", Rows.laid_io_EOF)] ((World.doorLaid Ybad.prog 200 os).forCall (fun _ _ => 0) ⟨#[], args, []⟩).memory :=
  laidMetH_of_parts3 (fuel := 8) (laidMet_of_run' 8 (by kernel_rfl) (by kernel_rfl)) (by kernel_rfl) (by kernel_rfl)

theorem i64_bd {x : Int} (h : (Lit.int .i64 x).wf = true) : x ≤ 9223372036854775807 := by
  simp [Lit.wf, IntKind.min, IntKind.max, IntKind.signed, IntKind.bits] at h
  omega
theorem u16_bd {x : Int} (h : (Lit.int .u16 x).wf = true) : 0 ≤ x := by
  simp [Lit.wf, IntKind.min, IntKind.max, IntKind.signed, IntKind.bits] at h
  omega

set_option maxRecDepth 100000 in
theorem lifted (os : Os) (started : os.Started) (H : Type) (enc : TypeId × Value → H) :
    ReturnsInHanded {} Ybad.checked os 3 .any (fun w args => (Rows.lawS4999BReadAtSpec.pre enc Ybad.prog Ybad.f3 [] false w args ∧ laidMetH Ybad.prog [("io.EOF", Rows.laid_io_EOF)] w) ∧ sizedMet enc Ybad.prog Ybad.f3 (OpenSpec.ofChange Rows.lawS4999BReadAtSpec) false w args)
      (Rows.lawS4999BReadAtSpec.post enc Ybad.prog Ybad.f3 false true false false) := by
  refine returnsInHanded_of_change_and (C := Ybad.checked) (X := fun w _ => laidMetH Ybad.prog [("io.EOF", Rows.laid_io_EOF)] w) (fun _ _ _ hh h => h.of_heap hh) own started (by kernel_rfl) Ybad.func3
    (ChangeSpec.witness_shaped (enc := enc) (C := Ybad.checked) (os := os) (X := fun w _ => laidMetH Ybad.prog [("io.EOF", Rows.laid_io_EOF)] w) false (World.doorLaid Ybad.prog 200 os) #[.slice none 0 0, .int .i64 0, .int .i64 0, .int .u16 0, .string ByteArray.empty] 8 rfl (World.shaped_of_RefB (by kernel_rfl) (by kernel_rfl)) (by kernel_rfl) (by kernel_rfl) (by kernel_rfl) (door_met os _)) ?_
  intro W base args ds gs before hval0 hW hcnd _ hlaid _
  have hval : ∀ (j : Nat) t v, Ybad.f3.params[j]? = some t → args[j]? = some v → Value.okWide Ybad.prog W .any base t v := hval0
  have hW' := hW
  obtain ⟨p, q, hA0, hV, rfl, hfz, hnd⟩ := hW
  have hA : DataW.TrodAll enc Ybad.prog W 0 (fun _ => true) true Ybad.f3.params.toList args.toList ds p := hA0
  rw [Ybad.params3] at hA hval
  obtain ⟨v0, vs0, d0, ds0, p0, q0, hargs, rfl, rfl, h0, r0⟩ := trodAll_cons hA
  obtain ⟨v1, vs1, d1, ds1, p1, q1, rfl, rfl, rfl, h1, r1⟩ := trodAll_cons r0
  obtain ⟨v2, vs2, d2, ds2, p2, q2, rfl, rfl, rfl, h2, r2⟩ := trodAll_cons r1
  obtain ⟨v3, vs3, d3, ds3, p3, q3, rfl, rfl, rfl, h3, r3⟩ := trodAll_cons r2
  obtain ⟨v4, vs4, d4, ds4, p4, q4, rfl, rfl, rfl, h4, r4⟩ := trodAll_cons r3
  obtain ⟨rfl, rfl, rfl⟩ := trodAll_nil r4
  obtain rfl : args = #[v0, v1, v2, v3, v4] := by cases args; simp_all
  obtain ⟨rfl, rfl⟩ := trodVars_none hV
  obtain ⟨a0, len0, cap0, rfl⟩ := okWide_slice Ybad.underlying22 (hval 0 22 v0 rfl rfl)
  have k0 := h0
  have lt0 : ∀ x ∈ p0, x.block < W.heap.size := by obtain ⟨m, hm⟩ := k0; exact DataW.trod_lt m _ _ _ hm
  obtain ⟨z0, w0⟩ : ∃ zs, IsRow .u8 W a0 len0 cap0 zs := by
    obtain ⟨fuel, hf⟩ := h0
    rcases open_ints Ybad.underlying22 Ybad.underlying5 (by kernel_rfl) hf with ⟨hcs, _⟩ | ⟨x, l, c, zs, hcs, _, hl, hm, hz, _, hcell, hwz⟩
    · simp [Value.cells] at hcs
      obtain ⟨rfl, rfl, rfl⟩ := hcs
      exact ⟨[], .inl ⟨rfl, rfl, rfl, rfl⟩⟩
    · simp [Value.cells] at hcs
      obtain ⟨rfl, rfl, rfl⟩ := hcs
      exact ⟨zs, .inr ⟨_, rfl, hl, hm, by simpa using hz, hcell, hwz⟩⟩
  obtain ⟨a1, rfl, rfl, rfl, w1⟩ := open_int Ybad.underlying2 (hval 1 2 v1 rfl rfl) h1
  obtain ⟨a2, rfl, rfl, rfl, w2⟩ := open_int Ybad.underlying2 (hval 2 2 v2 rfl rfl) h2
  obtain ⟨a3, rfl, rfl, rfl, w3⟩ := open_int Ybad.underlying23 (hval 3 23 v3 rfl rfl) h3
  obtain ⟨s4, rfl, rfl, rfl, hs4⟩ := open_string Ybad.underlying9 (hval 4 9 v4 rfl rfl) h4
  clear hA0 hval0
  refine (walk a0 len0 cap0 z0 a1 a2 a3 s4 W w0 (i64_bd w1) (i64_bd w2) (u16_bd w3) hlaid).mono fun e W' ⟨he, bel⟩ => ?_
  subst he
  exact ⟨_, rfl, _, _, _, [], _, [], hW', trodAll_mk1 (shut_bool Ybad.underlying4 _), (trodAll_cons_mk (Below.trod laidOut (by kernel_rfl) (of_decide_eq_true (by kernel_rfl)) k0 bel lt0) (trodAll_cons_mk (shut_int Ybad.underlying2 w1) (trodAll_cons_mk (shut_int Ybad.underlying2 w2) (trodAll_cons_mk (shut_int Ybad.underlying23 w3) (trodAll_cons_mk (shut_string Ybad.underlying9 hs4) trodAll_mk0))))), rfl, bel.frame _, fun h => by cases h⟩

theorem over : Rows.LawS4999BReadAtSaid :=
  OpenClaim.holds_of_wide 3 Ybad.f3 rfl rfl rfl rfl rfl rfl rfl ⟨rfl, rfl, rfl, rfl, rfl⟩ rfl rfl rfl rfl rfl (by kernel_rfl) Ybad.func3 (by kernel_rfl)
    (of_decide_eq_true (by kernel_rfl)) (by unfold Func.isWrapper; first | (rw [if_pos (by decide +kernel)]; kernel_rfl) | (rw [if_neg (by decide +kernel)]; exact ⟨rfl, rfl⟩))
    (fun os started H enc _ => lifted os started H enc)

theorem proved : Rows.LawS4999BReadAtCardSaid :=
  Claim7.holds_tied_plain_at .later [] [.sentinel] true (true, "68a69a296cec8b1aa975f4508a18908d9bebb7d06b40249e2687fe652695ad97") true
    over (fun _ h => by cases h) (by kernel_rfl) (fun _ h => by cases h) lawS4999BReadAt_row_tie rfl ⟨rfl, rfl⟩ (by kernel_rfl) rfl
    (fun f fn hf hfn => by
      obtain rfl : f = 3 := (Option.some.inj ((show Ybad.prog.funcNamed Rows.lawS4999BReadAtRow.func = some 3 by kernel_rfl).symm.trans hf)).symm
      obtain rfl : fn = Ybad.f3 := (Option.some.inj (Ybad.func3.symm.trans hfn)).symm
      exact ⟨by kernel_rfl, fun j t ht => by
        rw [Ybad.params3] at ht
        rcases j with _ | _ | _ | _ | _ | j
        · obtain rfl : (22 : TypeId) = t := Option.some.inj ht
          kernel_rfl
        · obtain rfl : (2 : TypeId) = t := Option.some.inj ht
          kernel_rfl
        · obtain rfl : (2 : TypeId) = t := Option.some.inj ht
          kernel_rfl
        · obtain rfl : (23 : TypeId) = t := Option.some.inj ht
          kernel_rfl
        · obtain rfl : (9 : TypeId) = t := Option.some.inj ht
          kernel_rfl
        · simp at ht⟩)
    (by kernel_rfl)
end Go.Proofs.YbulkcymuDoor.readAt
