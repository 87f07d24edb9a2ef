/-
  DERIVED. The walks of the small readers (6 .. 25).
-/
import Derived.Test.Qxb6603556aMem
namespace Go.Proofs.Qxb6603556a
open Go.RowKit
set_option linter.unusedVariables false

theorem assert_led (a : Addr) (w : World) : (Instr.typeAssert (.iface 32 (.pointer (some a))) 35 32 true).run Try.prog w = .ok (.tuple #[.pointer (some a), .bool true]) w := by kernel_rfl

set_option maxHeartbeats 400000 in
theorem asLed_any (a : Addr) (w : World) : Calls Try.prog 6 #[.iface 32 (.pointer (some a))] w fun e w' => e = .returned (.pointer (some a)) ∧ w = w' := by
  have ha := assert_led a
  go_enter Try.func6, Try.ntmps6
  go_wp2
  go_ret
  exact ⟨rfl, rfl⟩

theorem get7 {w : World} {b b2 : Nat} (h : w.cell? ⟨b, 5, none⟩ = some (.pointer (some ⟨b2, 0, none⟩))) : Calls Try.prog 7 #[.pointer (some ⟨b, 0, none⟩)] w fun e w' => e = .returned (.pointer (some ⟨b2, 0, none⟩)) ∧ w = w' := by
  go_enter Try.func7, Try.ntmps7
  go_wp2
  go_ret
  exact ⟨rfl, rfl⟩
theorem get8 {w : World} {b b2 L : Nat} (h : w.cell? ⟨b, 2, none⟩ = some (.slice (some ⟨b2, 0, none⟩) L L)) : Calls Try.prog 8 #[.pointer (some ⟨b, 0, none⟩)] w fun e w' => e = .returned (.int .i64 (L : Int)) ∧ w = w' := by
  go_enter Try.func8, Try.ntmps8
  go_wp2
  go_ret
  exact ⟨rfl, rfl⟩
theorem get9 {w : World} {b b2 L : Nat} (h : w.cell? ⟨b, 3, none⟩ = some (.slice (some ⟨b2, 0, none⟩) L L)) : Calls Try.prog 9 #[.pointer (some ⟨b, 0, none⟩)] w fun e w' => e = .returned (.int .i64 (L : Int)) ∧ w = w' := by
  go_enter Try.func9, Try.ntmps9
  go_wp2
  go_ret
  exact ⟨rfl, rfl⟩
theorem get10 {w : World} {b b2 L : Nat} (h : w.cell? ⟨b, 4, none⟩ = some (.slice (some ⟨b2, 0, none⟩) L L)) : Calls Try.prog 10 #[.pointer (some ⟨b, 0, none⟩)] w fun e w' => e = .returned (.int .i64 (L : Int)) ∧ w = w' := by
  go_enter Try.func10, Try.ntmps10
  go_wp2
  go_ret
  exact ⟨rfl, rfl⟩
theorem get11 {w : World} {b b2 L c : Nat} {b3 : Nat} (hL : L ≤ 65536) (h : w.cell? ⟨b, 2, none⟩ = some (.slice (some ⟨b2, 0, none⟩) L L)) (hc : c < L) (h2 : w.cell? ⟨b2, c, none⟩ = some (.pointer (some ⟨b3, 0, none⟩))) : Calls Try.prog 11 #[.pointer (some ⟨b, 0, none⟩), .int .i64 (c : Int)] w fun e w' => e = .returned (.pointer (some ⟨b3, 0, none⟩)) ∧ w = w' := by
  go_enter Try.func11, Try.ntmps11
  go_wp2
  go_ret
  exact ⟨rfl, rfl⟩
theorem get12 {w : World} {b : Nat} {v : Int} (h : w.cell? ⟨b, 1, none⟩ = some (.int .i64 v)) : Calls Try.prog 12 #[.pointer (some ⟨b, 0, none⟩)] w fun e w' => e = .returned (.int .i64 v) ∧ w = w' := by
  go_enter Try.func12, Try.ntmps12
  go_wp2
  go_ret
  exact ⟨rfl, rfl⟩
theorem get13 {w : World} {b : Nat} {v : Int} (h : w.cell? ⟨b, 2, none⟩ = some (.int .i64 v)) : Calls Try.prog 13 #[.pointer (some ⟨b, 0, none⟩)] w fun e w' => e = .returned (.int .i64 v) ∧ w = w' := by
  go_enter Try.func13, Try.ntmps13
  go_wp2
  go_ret
  exact ⟨rfl, rfl⟩
theorem get14 {w : World} {b b2 : Nat} (h : w.cell? ⟨b, 0, none⟩ = some (.pointer (some ⟨b2, 0, none⟩))) : Calls Try.prog 14 #[.pointer (some ⟨b, 0, none⟩)] w fun e w' => e = .returned (.pointer (some ⟨b2, 0, none⟩)) ∧ w = w' := by
  go_enter Try.func14, Try.ntmps14
  go_wp2
  go_ret
  exact ⟨rfl, rfl⟩
theorem get15 {w : World} {b : Nat} {v : Int} (h : w.cell? ⟨b, 0, none⟩ = some (.int .i64 v)) : Calls Try.prog 15 #[.pointer (some ⟨b, 0, none⟩)] w fun e w' => e = .returned (.int .i64 v) ∧ w = w' := by
  go_enter Try.func15, Try.ntmps15
  go_wp2
  go_ret
  exact ⟨rfl, rfl⟩
theorem get16 {w : World} {b : Nat} {v : Int} (h : w.cell? ⟨b, 1, none⟩ = some (.int .i64 v)) : Calls Try.prog 16 #[.pointer (some ⟨b, 0, none⟩)] w fun e w' => e = .returned (.int .i64 v) ∧ w = w' := by
  go_enter Try.func16, Try.ntmps16
  go_wp2
  go_ret
  exact ⟨rfl, rfl⟩
theorem get17 {w : World} {b : Nat} {v : Int} (h : w.cell? ⟨b, 2, none⟩ = some (.int .i64 v)) : Calls Try.prog 17 #[.pointer (some ⟨b, 0, none⟩)] w fun e w' => e = .returned (.int .i64 v) ∧ w = w' := by
  go_enter Try.func17, Try.ntmps17
  go_wp2
  go_ret
  exact ⟨rfl, rfl⟩
theorem get18 {w : World} {b : Nat} {v : Int} (h : w.cell? ⟨b, 4, none⟩ = some (.int .i64 v)) : Calls Try.prog 18 #[.pointer (some ⟨b, 0, none⟩)] w fun e w' => e = .returned (.int .i64 v) ∧ w = w' := by
  go_enter Try.func18, Try.ntmps18
  go_wp2
  go_ret
  exact ⟨rfl, rfl⟩
theorem get19 {w : World} {b b2 : Nat} (h : w.cell? ⟨b, 3, none⟩ = some (.pointer (some ⟨b2, 0, none⟩))) : Calls Try.prog 19 #[.pointer (some ⟨b, 0, none⟩)] w fun e w' => e = .returned (.pointer (some ⟨b2, 0, none⟩)) ∧ w = w' := by
  go_enter Try.func19, Try.ntmps19
  go_wp2
  go_ret
  exact ⟨rfl, rfl⟩
theorem get20 {w : World} {b : Nat} (h : w.cell? ⟨b, 1, none⟩ = some (.slice none 0 0)) : Calls Try.prog 20 #[.pointer (some ⟨b, 0, none⟩)] w fun e w' => e = .returned (.int .i64 0) ∧ w = w' := by
  go_enter Try.func20, Try.ntmps20
  go_wp2
  go_ret
  exact ⟨rfl, rfl⟩
theorem get21 {w : World} {b : Nat} {v : Int} (h : w.cell? ⟨b, 5, none⟩ = some (.int .u64 v)) : Calls Try.prog 21 #[.pointer (some ⟨b, 0, none⟩)] w fun e w' => e = .returned (.int .u64 v) ∧ w = w' := by
  go_enter Try.func21, Try.ntmps21
  go_wp2
  go_ret
  exact ⟨rfl, rfl⟩
theorem get22 {w : World} {b : Nat} (h : w.cell? ⟨b, 6, none⟩ = some (.pointer none)) : Calls Try.prog 22 #[.pointer (some ⟨b, 0, none⟩)] w fun e w' => e = .returned (.pointer none) ∧ w = w' := by
  go_enter Try.func22, Try.ntmps22
  go_wp2
  go_ret
  exact ⟨rfl, rfl⟩
theorem get23 {w : World} {b b2 L c : Nat} {v : Int} (hL : L ≤ 65536) (h : w.cell? ⟨b, 3, none⟩ = some (.slice (some ⟨b2, 0, none⟩) L L)) (hc : c < L) (h2 : w.cell? ⟨b2, c * 2, none⟩ = some (.int .i64 v)) : Calls Try.prog 23 #[.pointer (some ⟨b, 0, none⟩), .int .i64 (c : Int)] w fun e w' => e = .returned (.int .i64 v) ∧ w = w' := by
  go_enter Try.func23, Try.ntmps23
  go_wp2
  go_ret
  exact ⟨rfl, rfl⟩
theorem get24 {w : World} {b b2 L c : Nat} (hL : L ≤ 65536) (h : w.cell? ⟨b, 3, none⟩ = some (.slice (some ⟨b2, 0, none⟩) L L)) (hc : c < L) (h2 : w.cell? ⟨b2, c * 2 + 1, none⟩ = some (.pointer none)) : Calls Try.prog 24 #[.pointer (some ⟨b, 0, none⟩), .int .i64 (c : Int)] w fun e w' => e = .returned (.pointer none) ∧ w = w' := by
  go_enter Try.func24, Try.ntmps24
  go_wp2
  go_ret
  exact ⟨rfl, rfl⟩
theorem get25 {w : World} {b b2 L c : Nat} {v : Bool} (hL : L ≤ 65536) (h : w.cell? ⟨b, 4, none⟩ = some (.slice (some ⟨b2, 0, none⟩) L L)) (hc : c < L) (h2 : w.cell? ⟨b2, c, none⟩ = some (.bool v)) : Calls Try.prog 25 #[.pointer (some ⟨b, 0, none⟩), .int .i64 (c : Int)] w fun e w' => e = .returned (.bool v) ∧ w = w' := by
  go_enter Try.func25, Try.ntmps25
  go_wp2
  go_ret
  exact ⟨rfl, rfl⟩
end Go.Proofs.Qxb6603556a
