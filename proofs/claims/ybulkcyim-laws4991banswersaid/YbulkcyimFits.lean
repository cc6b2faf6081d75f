import Derived.Test.YbulkcyimRows
import Derived.Test.YbulkcyimLocks
import Derived.Conc.MuLone
import Derived.WalkKit
import Derived.Defers
import Derived.RowKit3
namespace Go.Proofs.Ybulkcyim.Fits
open Go.RowKit Go.MuLone
set_option linter.unusedVariables false

/-- What fits leaves: the lock free again, size as it was, freed as told; nothing below the writer's block has turned. -/
structure Left (sb : Nat) (h : Int) (f : Bool) (w w' : World) : Prop where
  size : w'.cell? ⟨sb, 11, none⟩ = some (.int .u64 h)
  freed : w'.cell? ⟨sb, 15, none⟩ = some (.bool f)
  below : ∀ B, B ≤ sb → Below B w w'

set_option maxHeartbeats 400000 in
theorem fits_no (sb : Nat) (h t s l : Int) (f : Bool) (w : World)
    (c4 : w.cell? ⟨sb, 4, none⟩ = some (.int .i32 0)) (c11 : w.cell? ⟨sb, 11, none⟩ = some (.int .u64 h)) (c15 : w.cell? ⟨sb, 15, none⟩ = some (.bool f))
    (f4 : w.frozen? ⟨sb, 4, none⟩ = false) (f15 : w.frozen? ⟨sb, 15, none⟩ = false) (g1 : 0 < IntKind.u64.wrap (h + t)) (g2 : l < IntKind.u64.wrap (IntKind.u64.wrap (h + t) + s)) :
    Calls Yba.prog 7 #[.pointer (some ⟨sb, 0, none⟩), .int .u64 t, .int .u64 s, .int .u64 l] w fun e w' => e = .returned (.bool false) ∧ Left sb h false w w' := by
  go_enter_defers Yba.func7, Yba.ntmps7
  go_wp2_with (go_at_call 10; refine (lock_free Yba.muLib ⟨sb, 4, none⟩ _ c4 f4).mono ?_; rintro e w' ⟨rfl, rfl⟩)
  refine leaves_cons (f := 11) (args := #[.pointer (some ⟨sb, 4, none⟩)]) (by simp) (by simp [go_sem]) ?_
  refine (unlock_deferred Yba.muLib ⟨sb, 4, none⟩ .returning _ ?_ ?_).mono ?_
  · exact (World.cell?_setCell_other _ ⟨sb, 15, none⟩ ⟨sb, 4, none⟩ _ (by simp)).trans (World.cell?_setCell_same w ⟨sb, 4, none⟩ (.int .i32 1) c4)
  · simp [f4]
  rintro e u' w'' ⟨rfl, rfl, rfl⟩
  refine ⟨_, results_tmp rfl _ _ _, rfl, ?_, ?_, fun B hB => ?_⟩
  · exact (World.cell?_setCell_other _ ⟨sb, 4, none⟩ ⟨sb, 11, none⟩ _ (by simp)).trans ((World.cell?_setCell_other _ ⟨sb, 15, none⟩ ⟨sb, 11, none⟩ _ (by simp)).trans ((World.cell?_setCell_other _ ⟨sb, 4, none⟩ ⟨sb, 11, none⟩ _ (by simp)).trans c11))
  · exact (World.cell?_setCell_other _ ⟨sb, 4, none⟩ ⟨sb, 15, none⟩ _ (by simp)).trans (World.cell?_setCell_same _ ⟨sb, 15, none⟩ _ ((World.cell?_setCell_other _ ⟨sb, 4, none⟩ ⟨sb, 15, none⟩ _ (by simp)).trans c15))
  · exact (((Below.refl B w).setCell hB _).setCell hB _).setCell hB _

theorem left_yes {sb : Nat} {h : Int} {f : Bool} {w : World} (c11 : w.cell? ⟨sb, 11, none⟩ = some (.int .u64 h)) (c15 : w.cell? ⟨sb, 15, none⟩ = some (.bool f)) :
    Left sb h f w ((w.setCell ⟨sb, 4, none⟩ (.int .i32 1)).setCell ⟨sb, 4, none⟩ (.int .i32 0)) :=
  ⟨(World.cell?_setCell_other _ ⟨sb, 4, none⟩ ⟨sb, 11, none⟩ _ (by simp)).trans ((World.cell?_setCell_other _ ⟨sb, 4, none⟩ ⟨sb, 11, none⟩ _ (by simp)).trans c11),
   (World.cell?_setCell_other _ ⟨sb, 4, none⟩ ⟨sb, 15, none⟩ _ (by simp)).trans ((World.cell?_setCell_other _ ⟨sb, 4, none⟩ ⟨sb, 15, none⟩ _ (by simp)).trans c15),
   fun B hB => ((Below.refl B w).setCell hB _).setCell hB _⟩

set_option maxHeartbeats 400000 in
theorem fits_yes (sb : Nat) (h t s l : Int) (f : Bool) (w : World)
    (c4 : w.cell? ⟨sb, 4, none⟩ = some (.int .i32 0)) (c11 : w.cell? ⟨sb, 11, none⟩ = some (.int .u64 h)) (c15 : w.cell? ⟨sb, 15, none⟩ = some (.bool f))
    (f4 : w.frozen? ⟨sb, 4, none⟩ = false) (g : IntKind.u64.wrap (h + t) ≤ 0 ∨ IntKind.u64.wrap (IntKind.u64.wrap (h + t) + s) ≤ l) :
    Calls Yba.prog 7 #[.pointer (some ⟨sb, 0, none⟩), .int .u64 t, .int .u64 s, .int .u64 l] w fun e w' => e = .returned (.bool true) ∧ Left sb h f w w' := by
  by_cases g1 : 0 < IntKind.u64.wrap (h + t)
  · have g2 : IntKind.u64.wrap (IntKind.u64.wrap (h + t) + s) ≤ l := by omega
    clear g
    go_enter_defers Yba.func7, Yba.ntmps7
    go_wp2_with (go_at_call 10; refine (lock_free Yba.muLib ⟨sb, 4, none⟩ _ c4 f4).mono ?_; rintro e w' ⟨rfl, rfl⟩)
    refine leaves_cons (f := 11) (args := #[.pointer (some ⟨sb, 4, none⟩)]) (by simp) (by simp [go_sem]) ?_
    refine (unlock_deferred Yba.muLib ⟨sb, 4, none⟩ .returning _ ?_ ?_).mono ?_
    · exact World.cell?_setCell_same w ⟨sb, 4, none⟩ (.int .i32 1) c4
    · simp [f4]
    rintro e u' w'' ⟨rfl, rfl, rfl⟩
    exact ⟨_, results_tmp rfl _ _ _, rfl, left_yes c11 c15⟩
  · have g2 : IntKind.u64.wrap (h + t) ≤ 0 := by omega
    clear g g1
    go_enter_defers Yba.func7, Yba.ntmps7
    go_wp2_with (go_at_call 10; refine (lock_free Yba.muLib ⟨sb, 4, none⟩ _ c4 f4).mono ?_; rintro e w' ⟨rfl, rfl⟩)
    refine leaves_cons (f := 11) (args := #[.pointer (some ⟨sb, 4, none⟩)]) (by simp) (by simp [go_sem]) ?_
    refine (unlock_deferred Yba.muLib ⟨sb, 4, none⟩ .returning _ ?_ ?_).mono ?_
    · exact World.cell?_setCell_same w ⟨sb, 4, none⟩ (.int .i32 1) c4
    · simp [f4]
    rintro e u' w'' ⟨rfl, rfl, rfl⟩
    exact ⟨_, results_tmp rfl _ _ _, rfl, left_yes c11 c15⟩

/-- The new writer's cells. -/
abbrev wcells (h : Int) (f : Bool) : Obj := .cells #[.string ⟨#[]⟩, .int .u64 0, .chan none, .pointer none, .int .i32 0, .int .u32 0, .slice none 0 0, .int .u64 0, .slice none 0 0, .int .u64 0, .int .i64 0, .int .u64 h, .int .u64 0, .slice none 0 0, .nilFunc, .bool f, .bool false, .bool false, .nilIface, .bool false, .bool false] 39
theorem new_no (h t s l : Int) (f : Bool) (w : World) (g1 : 0 < IntKind.u64.wrap (h + t)) (g2 : l < IntKind.u64.wrap (IntKind.u64.wrap (h + t) + s)) :
    Calls Yba.prog 7 #[.pointer (some ⟨w.heap.size, 0, none⟩), .int .u64 t, .int .u64 s, .int .u64 l] (w.alloc (wcells h f)) fun e w' => e = .returned (.bool false) ∧ Left w.heap.size h false (w.alloc (wcells h f)) w' :=
  fits_no w.heap.size h t s l f _ (by simp [go_sem]) (by simp [go_sem]) (by simp [go_sem]) (by simp [go_sem]) (by simp [go_sem]) g1 g2
theorem new_yes (h t s l : Int) (f : Bool) (w : World) (g : IntKind.u64.wrap (h + t) ≤ 0 ∨ IntKind.u64.wrap (IntKind.u64.wrap (h + t) + s) ≤ l) :
    Calls Yba.prog 7 #[.pointer (some ⟨w.heap.size, 0, none⟩), .int .u64 t, .int .u64 s, .int .u64 l] (w.alloc (wcells h f)) fun e w' => e = .returned (.bool true) ∧ Left w.heap.size h f (w.alloc (wcells h f)) w' :=
  fits_yes w.heap.size h t s l f _ (by simp [go_sem]) (by simp [go_sem]) (by simp [go_sem]) (by simp [go_sem]) g
theorem Left.end {h : Int} {f : Bool} {o : Obj} {w w' : World} (L : Left w.heap.size h f (w.alloc o) w') : Below w.heap.size w w' :=
  ((Below.refl _ w).alloc (Nat.le_refl _) o).trans (L.below _ (Nat.le_refl _))

set_option maxHeartbeats 400000 in
/-- LawS4991BEffects. -/
theorem effects (h t s l : Int) (f : Bool) (w : World) :
    Calls Yba.prog 4 #[.int .u64 h, .int .u64 t, .int .u64 s, .int .u64 l, .bool f] w fun e w' => e = .returned (.bool true) ∧ Below w.heap.size w w' := by
  by_cases g : 0 < IntKind.u64.wrap (h + t) ∧ l < IntKind.u64.wrap (IntKind.u64.wrap (h + t) + s)
  · have F := new_no h t s l f w g.1 g.2
    clear g
    go_enter Yba.func4, Yba.ntmps4
    go_wp2_with (go_at_call 7; refine F.mono ?_; rintro e w' ⟨rfl, L⟩; have c1 := L.size; have c2 := L.freed)
    go_ret
    exact ⟨rfl, L.end⟩
  · have F := new_yes h t s l f w (by omega)
    clear g
    have hb : ∀ x : Bool, (x == x) = true := by simp
    go_enter Yba.func4, Yba.ntmps4
    go_wp2_with (go_at_call 7; refine F.mono ?_; rintro e w' ⟨rfl, L⟩; have c1 := L.size; have c2 := L.freed)
    go_ret
    exact ⟨rfl, L.end⟩

theorem wrap_id {n : Int} (h0 : 0 ≤ n) (h1 : n < 18446744073709551616) : IntKind.u64.wrap n = n := by
  simp [IntKind.wrap, IntKind.bits, IntKind.signed]; omega

set_option maxHeartbeats 400000 in
theorem answer_big (h t s l : Int) (f : Bool) (w : World) (g : 4611686018427387904 < h ∨ 4611686018427387904 < t ∨ 4611686018427387904 < s) :
    Calls Yba.prog 3 #[.int .u64 h, .int .u64 t, .int .u64 s, .int .u64 l, .bool f] w fun e w' => e = .returned (.bool true) ∧ Below w.heap.size w w' := by
  by_cases g1 : 4611686018427387904 < h
  · clear g
    go_enter Yba.func3, Yba.ntmps3
    go_wp2
    go_ret
    exact ⟨rfl, Below.refl _ _⟩
  by_cases g2 : 4611686018427387904 < t
  · clear g
    go_enter Yba.func3, Yba.ntmps3
    go_wp2
    go_ret
    exact ⟨rfl, Below.refl _ _⟩
  · have g3 : 4611686018427387904 < s := by omega
    clear g
    go_enter Yba.func3, Yba.ntmps3
    go_wp2
    go_ret
    exact ⟨rfl, Below.refl _ _⟩

set_option maxHeartbeats 400000 in
theorem answer_small (h t s l : Int) (f : Bool) (w : World) (a0 : 0 ≤ h) (a1 : h ≤ 4611686018427387904) (b0 : 0 ≤ t) (b1 : t ≤ 4611686018427387904) (c0 : 0 ≤ s) (c1 : s ≤ 4611686018427387904) (d0 : 0 ≤ l) :
    Calls Yba.prog 3 #[.int .u64 h, .int .u64 t, .int .u64 s, .int .u64 l, .bool f] w fun e w' => e = .returned (.bool true) ∧ Below w.heap.size w w' := by
  have e1 : IntKind.u64.wrap (h + t) = h + t := wrap_id (by omega) (by omega)
  have e2 : IntKind.u64.wrap (h + t + s) = h + t + s := wrap_id (by omega) (by omega)
  by_cases z : h + t = 0
  · have F := new_yes h t s l f w (by rw [e1]; omega)
    have h0 : h = 0 := by omega
    have t0 : t = 0 := by omega
    subst h0 t0
    clear e1 e2 z
    go_enter Yba.func3, Yba.ntmps3
    go_wp2_with (go_at_call 7; refine F.mono ?_; rintro e w' ⟨rfl, L⟩)
    go_ret
    exact ⟨rfl, L.end⟩
  have z' : (h + t == 0) = false := by simpa using z
  by_cases g : l < h + t + s
  · have F := new_no h t s l f w (by rw [e1]; omega) (by rw [e1, e2]; exact g)
    have g' : decide (h + t + s ≤ l) = false := decide_eq_false (by omega)
    clear e1 e2
    go_enter Yba.func3, Yba.ntmps3
    go_wp2_with (go_at_call 7; refine F.mono ?_; rintro e w' ⟨rfl, L⟩)
    go_ret
    exact ⟨rfl, L.end⟩
  · have F := new_yes h t s l f w (by rw [e1, e2]; omega)
    clear e1 e2
    go_enter Yba.func3, Yba.ntmps3
    go_wp2_with (go_at_call 7; refine F.mono ?_; rintro e w' ⟨rfl, L⟩)
    go_ret
    exact ⟨rfl, L.end⟩
end Go.Proofs.Ybulkcyim.Fits
