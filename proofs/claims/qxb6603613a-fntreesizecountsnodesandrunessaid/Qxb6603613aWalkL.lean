/-
  DERIVED. The walk of 'FnTreeSizeCountsNodesAndRunes' (5).
-/
import Derived.Test.Qxb6603613aWalkB
import Derived.Test.Qxb6603613aWalkI
import Derived.Test.Qxb6603613aWalkS
namespace Go.Proofs.Qxb6603613a
open Go.RowKit
set_option linter.unusedVariables false

set_option maxHeartbeats 400000 in
theorem tree_walk (f : Nat) (v : Value) (w : World) (h : Src w w.heap.size f v) :
    Calls Try.prog 5 #[v] w fun e w' => e = .returned (.bool true) ∧ Below w.heap.size w w' := by
  have HS : Hid (Src w w.heap.size f v) := h
  have hv : v = .pointer none ∨ ∃ b o, v = .pointer (some ⟨b, o, none⟩) := by
    cases f with
    | zero => exact h.elim
    | succ f =>
      rcases h with h | ⟨b, o, ro, rl, rc, so, sl, sc, V, h, _⟩
      · exact Or.inl h
      · exact Or.inr ⟨b, o, h⟩
  clear h
  rcases hv with rfl | ⟨b, o, rfl⟩
  · clear HS
    go_enter Try.func5, Try.ntmps5
    go_wp2
    go_ret
    exact ⟨rfl, Below.refl _ _⟩
  · go_enter Try.func5, Try.ntmps5
    go_wp2_with fail
    have HB : Hid (Bud (w.alloc (.cells #[.int .i64 0, .int .i64 0, .int .i64 0, .bool true] 37)) w.heap.size ((0 : Nat) : Int) ((0 : Nat) : Int) ((0 : Nat) : Int) true) :=
      ⟨by simp, by simp, by simp, by simp, fun i => by simp⟩
    have HS1 : Hid (Src (w.alloc (.cells #[.int .i64 0, .int .i64 0, .int .i64 0, .bool true] 37)) w.heap.size f (.pointer (some ⟨b, o, none⟩))) := src_carry (fun k hk => Below.heap_alloc _ _ _ hk) _ _ HS.out
    have hbel0 : Below w.heap.size w (w.alloc (.cells #[.int .i64 0, .int .i64 0, .int .i64 0, .bool true] 37)) := (Below.refl _ _).alloc (Nat.le_refl _) _
    have hsz0 : w.heap.size < (w.alloc (.cells #[.int .i64 0, .int .i64 0, .int .i64 0, .bool true] 37)).heap.size := by simp
    refine (build_any w.heap.size w.heap.size (Nat.le_refl _) f _ _ 0 0 0 HS1.out hsz0 HB.out (by omega) (by omega) (by omega)).mono ?_
    intro e w1 hpost
    obtain ⟨p, rfl, hk1, hcase⟩ := hpost
    have hb1 : Below w.heap.size w w1 := hbel0.trans (hk1.below (Nat.le_refl _) hsz0)
    rcases hcase with ⟨n', r', s', hb7⟩ | ⟨N, C, s', hb7, hnb, hrb, hs', hcnt, hdst⟩
    · have k3 := hb7.c3
      clear hb7 hk1 HB HS1 hbel0 hsz0 HS
      go_wp2
      go_ret
      exact ⟨rfl, hb1⟩
    · have k3 := hb7.c3
      have HC : Hid (Cnt w1 w.heap.size f (.pointer (some ⟨b, o, none⟩)) N C) := cnt_carry (hk1.low (Nat.le_refl _) hsz0) _ _ _ _ hcnt
      have HD : Hid (Dst w1 _ f (.pointer p) N C) := hdst
      have hz1 := hb1.size
      clear hb7 hk1 HB HS1 hbel0 hcnt hdst HS
      go_wp2_with fail
      refine (iter_any w.heap.size w1 _ N C f HC.out hz1 (by omega) (by omega)).mono ?_
      rintro e w2 ⟨rfl, hb2⟩
      have HD2 : Hid (Dst w2 _ f (.pointer p) N C) := dst_carry (fun k _ hk => hb2.block k hk) _ _ _ _ HD.out
      go_wp2_with fail
      refine (zsize_any _ f _ N C w2 HD2.out (by omega) (by omega)).mono ?_
      rintro e w3 ⟨rfl, m, rfl⟩
      go_wp2
      go_ret
      have hb3 := hb1.trans (hb2.mono hz1)
      exact ⟨rfl, ⟨hb3.os, hb3.tape, hb3.output, hb3.size, hb3.block⟩⟩
end Go.Proofs.Qxb6603613a
