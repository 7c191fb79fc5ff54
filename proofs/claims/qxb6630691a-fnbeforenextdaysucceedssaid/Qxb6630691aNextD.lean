/-
  The walk of FnBeforeNextDaySucceeds, one of its cases.
-/
import Derived.Test.Qxb6630691aContracts
import Derived.Test.Qxb6630691aRows
import Derived.Deep.RegionHeld
import Derived.WalkKit
import Derived.ProofKit
namespace Go.Proofs.Qxb6630691a.fnBeforeNextDaySucceeds
open Go.ChangeShapes Go.WideShapes Go.ChangeAt Go.RowKit
set_option linter.unusedVariables false

set_option maxHeartbeats 1000000 in
/-- The law where the two days part: walk_d. -/
theorem walk_d (a0 a1 a2 a5 ny nm nd : Int) (q : Bool) (w : World) (hv1 : Cal.vld a0 a1 a2 = true) (hv2 : Cal.vld a0 a1 a5 = true)
    (l1 : Cal.bef a0 a1 a2 ny nm nd = true) (l2 : Cal.bef ny nm nd a0 a1 a2 = false) (l3 : Cal.bef a0 a1 a2 a0 a1 a2 = false)
    (q1 : Cal.bef a0 a1 a5 a0 a1 a2 = q) (q2 : Cal.bef a0 a1 a5 ny nm nd = q) (hne : (a5 == a2) = false)
    (HN : Hid (∀ w, Calls Try.prog 9 #[.int .i64 a0, .int .i64 a1, .int .i64 a2] w fun e w' => e = .returned (.tuple #[.int .i64 ny, .int .i64 nm, .int .i64 nd]) ∧ w' = w)) :
    Calls Try.prog 4 #[.int .i64 a0, .int .i64 a1, .int .i64 a2, .int .i64 a0, .int .i64 a1, .int .i64 a5] w fun e w' => e = .returned (.bool true) ∧ Grown w w' := by
  cases q
  all_goals
    go_enter Try.func4, Try.ntmps4
    go_wp2_with (first | (go_at_call 5; refine (valid_any _ _ _ _).mono ?_; rintro e w' ⟨rfl, h⟩; obtain rfl := h.symm) | (go_at_call 6; refine (new_any _ _ _ _).mono ?_; rintro e w' ⟨rfl, rfl⟩) | (go_at_call 9; refine (HN.out _).mono ?_; rintro e w' ⟨rfl, h⟩; obtain rfl := h.symm))
    first | go_region_held (fun W => W.cell? ⟨w.heap.size + 1, 0, none⟩ = some (.int .i64 a0) ∧ W.cell? ⟨w.heap.size + 1, 1, none⟩ = some (.int .i64 a1) ∧ W.cell? ⟨w.heap.size + 1, 2, none⟩ = some (.int .i64 a2) ∧
        W.cell? ⟨w.heap.size + 1 + 1 + 1, 0, none⟩ = some (.int .i64 ny) ∧ W.cell? ⟨w.heap.size + 1 + 1 + 1, 1, none⟩ = some (.int .i64 nm) ∧ W.cell? ⟨w.heap.size + 1 + 1 + 1, 2, none⟩ = some (.int .i64 nd) ∧
        W.cell? ⟨w.heap.size + 1 + 1 + 1 + 1 + 1, 0, none⟩ = some (.int .i64 a0) ∧ W.cell? ⟨w.heap.size + 1 + 1 + 1 + 1 + 1, 1, none⟩ = some (.int .i64 a1) ∧ W.cell? ⟨w.heap.size + 1 + 1 + 1 + 1 + 1, 2, none⟩ = some (.int .i64 a5)) (go_simp)
      (first | (go_at_call 8; refine (before_any _ _ _ _ _ _ _).mono ?_; rintro e w' ⟨rfl, rfl⟩)) | fail
    go_wp2
    go_ret
    exact ⟨rfl, by repeat (first | with_reducible exact Grown.refl _ | with_reducible apply Grown.alloc | with_reducible apply Grown.drew)⟩

end Go.Proofs.Qxb6630691a.fnBeforeNextDaySucceeds
