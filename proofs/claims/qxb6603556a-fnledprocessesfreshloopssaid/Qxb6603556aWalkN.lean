/-
  DERIVED. The walks of 'big.NewInt(0)' (35), 'New' (34), 'NewLoop' (33).
-/
import Derived.Test.Qxb6603556aMem
namespace Go.Proofs.Qxb6603556a
open Go.RowKit
set_option linter.unusedVariables false

set_option maxHeartbeats 400000 in
theorem newInt_any (w : World) : Calls Try.prog 35 #[.int .i64 0] w fun e w' => e = .returned (.pointer (some ⟨w.heap.size, 0, none⟩)) ∧ w' = w.alloc (.cells bigCells 73) := by
  go_enter Try.func35, Try.ntmps35
  go_wp2
  go_ret
  exact ⟨rfl, rfl⟩

set_option maxHeartbeats 400000 in
theorem new_any (id n : Int) (w : World) : Calls Try.prog 34 #[.int .i64 id, .int .i64 n] w fun e w' => e = .returned (.pointer (some ⟨w.heap.size + 1, 0, none⟩)) ∧ w' = (w.alloc (.cells bigCells 73)).alloc (.cells (objCells id n w.heap.size) 69) := by
  go_enter Try.func34, Try.ntmps34
  go_wp2_with (go_at_call 35; refine (newInt_any _).mono ?_; rintro e w' ⟨rfl, rfl⟩)
  go_ret
  exact ⟨by simp, rfl⟩

set_option maxHeartbeats 400000 in
theorem newLoop_any (id n : Int) (w : World) : Calls Try.prog 33 #[.int .i64 id, .int .i64 n] w fun e w' => e = .returned (.pointer (some ⟨w.heap.size + 2, 0, none⟩)) ∧ w' = mkLoop w id n := by
  go_enter Try.func33, Try.ntmps33
  go_wp2_with (go_at_call 34; refine (new_any _ _ _).mono ?_; rintro e w' ⟨rfl, rfl⟩)
  go_ret
  exact ⟨by simp, rfl⟩
end Go.Proofs.Qxb6603556a
