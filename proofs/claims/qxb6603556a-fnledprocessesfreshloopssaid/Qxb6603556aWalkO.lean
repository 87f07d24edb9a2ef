/-
  DERIVED. The walk of 'NewLoops' (26).
-/
import Derived.Test.Qxb6603556aWalkN
import Derived.Deep.Cut
import Derived.Deep.CutRange
import Derived.Deep.RegionWith
import Derived.Deep.LoopGhost
namespace Go.Proofs.Qxb6603556a
open Go.RowKit
set_option linter.unusedVariables false

theorem mkLoop_drew (w : World) (id n : Int) : mkLoop w.drew id n = (mkLoop w id n).drew := rfl
attribute [local go_sem] mkLoop_drew

set_option maxHeartbeats 800000 in
theorem newLoops_any (id n : Int) (L : Nat) (w : World) (hL : L ≤ 65536) : Calls Try.prog 26 #[.int .i64 id, .int .i64 n, .int .i64 (L : Int)] w fun e w' =>
    e = .returned (.pointer (some ⟨w.heap.size + 3, 0, none⟩)) ∧ (∃ lb sb ab, NInv w' w.heap.size id n L L lb sb ab) ∧ Below w.heap.size w w' := by
  have m61 := make61 L hL
  have m62 := make62 L hL
  have m63 := make63 L hL
  go_enter Try.func26, Try.ntmps26
  go_upto_region 1 with fail
  go_cut [7] from 9 to 18 (fun s wx => s = .pointer (some ⟨w.heap.size + 3, 0, none⟩) ∧ (∃ lb sb ab, NInv wx w.heap.size id n L 0 lb sb ab) ∧ Below w.heap.size w wx)
  case first =>
    go_region
    all_goals (go_wp2_with fail; go_meet)
    all_goals
      refine ⟨rfl, ?_, ?_⟩
      · first
          | exact ⟨_, _, _, (ninv_start (four_blocks w _ _ _ _).2.2.2.1 (by first | exact (four_blocks w _ _ _ _).1 | exact (four_blocks w _ _ _ _).2.1 | exact (four_blocks w _ _ _ _).2.2.1) (by first | exact (four_blocks w _ _ _ _).1 | exact (four_blocks w _ _ _ _).2.1 | exact (four_blocks w _ _ _ _).2.2.1) (by first | exact (four_blocks w _ _ _ _).1 | exact (four_blocks w _ _ _ _).2.1 | exact (four_blocks w _ _ _ _).2.2.1) (four_blocks w _ _ _ _).2.2.2.2 (by omega))⟩
          | exact ⟨_, _, _, (ninv_start (four_blocks w _ _ _ _).2.2.2.1 (by first | exact (four_blocks w _ _ _ _).1 | exact (four_blocks w _ _ _ _).2.1 | exact (four_blocks w _ _ _ _).2.2.1) (by first | exact (four_blocks w _ _ _ _).1 | exact (four_blocks w _ _ _ _).2.1 | exact (four_blocks w _ _ _ _).2.2.1) (by first | exact (four_blocks w _ _ _ _).1 | exact (four_blocks w _ _ _ _).2.1 | exact (four_blocks w _ _ _ _).2.2.1) (four_blocks w _ _ _ _).2.2.2.2 (by omega)).drew⟩
          | exact ⟨_, _, _, (ninv_start (four_blocks w _ _ _ _).2.2.2.1 (by first | exact (four_blocks w _ _ _ _).1 | exact (four_blocks w _ _ _ _).2.1 | exact (four_blocks w _ _ _ _).2.2.1) (by first | exact (four_blocks w _ _ _ _).1 | exact (four_blocks w _ _ _ _).2.1 | exact (four_blocks w _ _ _ _).2.2.1) (by first | exact (four_blocks w _ _ _ _).1 | exact (four_blocks w _ _ _ _).2.1 | exact (four_blocks w _ _ _ _).2.2.1) (four_blocks w _ _ _ _).2.2.2.2 (by omega)).drew.drew⟩
      · repeat (refine Below.drew ?_)
        exact below_four w _ _ _ _
  case rest =>
    obtain ⟨rfl, ⟨lb, sb, ab, hinv⟩, hbel⟩ := hcut
    clear m61 m62 m63
    have HI : Hid (NInv wc w.heap.size id n L 0 lb sb ab) := hinv
    have b2 := hinv.b2
    clear hinv
    go_wp2
    go_loopw [24] (fun i wr => ∃ k : Nat, i = .int .i64 k ∧ k ≤ L ∧ NInv wr w.heap.size id n L k lb sb ab ∧ Below w.heap.size w wr) (fun i _ => L - (intOf i).toNat)
    case atStart => exact ⟨0, rfl, Nat.zero_le _, HI.out, hbel⟩
    case round =>
      clear HI hbel b2
      obtain ⟨k, rfl, hk, hinv, hbel⟩ := hrel
      by_cases hlt : k < L
      · have HS : Hid _ := ninv_step hinv hlt
        have hz := hinv.size
        have hlow := low_mkLoop wr id n
        have hc : ∀ (y j : Nat), y < wr.heap.size → (mkLoop wr id n).cell? ⟨y, j, none⟩ = wr.cell? ⟨y, j, none⟩ := fun y j hy => World.cell?_of_block (w := wr) (hlow y hy)
        have hf : ∀ (y j : Nat), y < wr.heap.size → (mkLoop wr id n).frozen? ⟨y, j, none⟩ = wr.frozen? ⟨y, j, none⟩ := fun y j hy => World.frozen?_of_block (w := wr) (hlow y hy)
        have b2 := hinv.b2
        have b3 := hinv.b3
        have l0 := hinv.lrow.cell hlt
        obtain ⟨u0, hu0⟩ : ∃ u, u = lfun w.heap.size k k := ⟨_, rfl⟩
        rw [← hu0] at l0
        have lf := hinv.lrow.frozen k
        have s0 := hinv.srow.cell (i := k * 2) (by omega)
        obtain ⟨u1, hu1⟩ : ∃ u, u = sfun k (k * 2) := ⟨_, rfl⟩
        rw [← hu1] at s0
        have sf := hinv.srow.frozen (k * 2)
        have l2 := hinv.l2
        have s2 := hinv.s2
        have ls := hinv.ls
        have b2' := (hc (w.heap.size + 3) 2 (by omega)).trans b2
        have b3' := (hc (w.heap.size + 3) 3 (by omega)).trans b3
        have l0' := (hc lb k (by omega)).trans l0
        have lf' := (hf lb k (by omega)).trans lf
        have s0' := (hc sb (k * 2) (by omega)).trans s0
        have sf' := (hf sb (k * 2) (by omega)).trans sf
        have HB : Hid (Below w.heap.size w (((mkLoop wr id n).setCell ⟨lb, k, none⟩ (.pointer (some ⟨wr.heap.size + 2, 0, none⟩))).setCell ⟨sb, k * 2, none⟩ (.int .i64 ((k : Int) + 1))).drew) :=
          (((hbel.trans (below_mkLoop wr id n _ hbel.size)).setCell hinv.l1 _).setCell hinv.s1 _).drew
        have HZ : Hid (wr.heap.size = w.heap.size + 4 + 3 * k) := hz
        have hn1 : w.heap.size + 3 ≠ lb := by omega
        have hn2 : w.heap.size + 3 ≠ sb := by omega
        clear hc hf hlow hinv hz hu0 hu1
        have hn3 : (mkLoop wr id n).heap.size = wr.heap.size + 3 := size_mkLoop _ _ _
        go_upto_region 5 with fail
        go_region_with (go_at_call 33; refine (newLoop_any _ _ _).mono ?_; rintro e w' ⟨rfl, rfl⟩)
        all_goals go_wp2
        all_goals
          go_roundw
          case rel => exact ⟨k + 1, by go_num, by omega, HS.out.drew, HB.out⟩
          case measure => simp [intOf]; omega
      · obtain rfl : k = L := by omega
        have HX : Hid (∃ lb sb ab, NInv wr w.heap.size id n k k lb sb ab) := ⟨lb, sb, ab, hinv⟩
        clear hinv
        go_wp2
        go_ret
        exact ⟨rfl, HX.out, hbel⟩
end Go.Proofs.Qxb6603556a
