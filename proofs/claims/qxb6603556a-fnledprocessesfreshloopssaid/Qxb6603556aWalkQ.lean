/-
  DERIVED. The walk of 'Processes' (5).
-/
import Derived.Test.Qxb6603556aWalkO
import Derived.Test.Qxb6603556aProcs
import Derived.Deep.RegionHeld
namespace Go.Proofs.Qxb6603556a
open Go.RowKit
set_option linter.unusedVariables false

theorem newLoops_post (id n : Int) (L : Nat) (w : World) (hL : L ≤ 65536) : Calls Try.prog 26 #[.int .i64 id, .int .i64 n, .int .i64 (L : Int)] w fun e w' =>
    e = .returned (.pointer (some ⟨w.heap.size + 3, 0, none⟩)) ∧ NPost w w' id n L := by
  refine (newLoops_any id n L w hL).mono ?_
  rintro e w' ⟨rfl, h1, h2⟩
  exact ⟨rfl, h1, h2⟩

theorem make27 (N : Nat) (hN : N ≤ 65536) (w : World) : (Instr.makeSlice 27 (.int .i64 (N : Int)) (.int .i64 (N : Int))).run Try.prog w = .ok (.slice (some ⟨w.heap.size, 0, none⟩) N N) (w.alloc (.cells (madeCells #[.nilIface] N) 35)) :=
  run_make_row' 27 35 .nilIface 16 Try.underlying27 Try.info35 rfl .i64 .i64 N (by omega) (by omega) w

set_option maxHeartbeats 800000 in
theorem procs_any (L N cp plen pcap : Nat) (inst : Bool) (Z : Nat → Int) (w : World) (hL : L ≤ 65536) (hN : N ≤ 65536) (hp : N ≤ plen) (hcp : 0 < N → cp < w.heap.size) (hz : ∀ j, j < plen → w.cell? ⟨cp, j, none⟩ = some (.int .i64 (Z j))) :
    Calls Try.prog 5 #[.agg #[.int .i64 (L : Int), .nilFunc, .bool inst], .int .i64 (N : Int), .slice (some ⟨cp, 0, none⟩) plen pcap] w fun e w' =>
      e = .returned (.slice (some ⟨w.heap.size + 1, 0, none⟩) N N) ∧ PInv w' w.heap.size inst (N : Int) L N N ∧ Below w.heap.size w w' := by
  have m27 := make27 N hN
  have HZ : Hid (∀ j, j < plen → w.cell? ⟨cp, j, none⟩ = some (.int .i64 (Z j))) := hz
  clear hz
  go_enter Try.func5, Try.ntmps5
  go_wp2
  have HS : Hid _ := pinv_start w inst (N : Int) L N
  go_loopw [14] (fun i wr => ∃ k : Nat, i = .int .i64 k ∧ k ≤ N ∧ PInv wr w.heap.size inst (N : Int) L N k ∧ Below w.heap.size w wr) (fun i _ => N - (intOf i).toNat)
  case atStart => exact ⟨0, rfl, Nat.zero_le _, HS.out, ((Below.refl _ _).alloc (Nat.le_refl _) _).alloc (by simp) _⟩
  case round =>
    clear HS m27
    obtain ⟨k, rfl, hk, hinv, hbel⟩ := hrel
    by_cases hlt : k < N
    · have hb := pbase_ge w.heap.size L k
      have hsz := hinv.size
      have hx : w.heap.size < wr.heap.size := by omega
      have hx1 : w.heap.size + 1 < wr.heap.size := by omega
      have hcx : cp < wr.heap.size := by have := hcp (by omega); omega
      have a0 : wr.cell? ⟨w.heap.size, 0, none⟩ = some (.int .i64 (L : Int)) := hinv.a 0
      have a1 : wr.cell? ⟨w.heap.size, 1, none⟩ = some .nilFunc := hinv.a 1
      have a2 : wr.cell? ⟨w.heap.size, 2, none⟩ = some (.bool inst) := hinv.a 2
      have z0 : wr.cell? ⟨cp, k, none⟩ = some (.int .i64 (Z k)) := (hbel.cell (p := ⟨cp, k, none⟩) (hcp (by omega))).trans (HZ.out k (by omega))
      have p0 := hinv.prow.cell hlt
      have pf := hinv.prow.frozen k
      obtain ⟨u0, hu0⟩ : ∃ u, u = pfun w.heap.size L k k := ⟨_, rfl⟩
      rw [← hu0] at p0
      have HI : Hid (PInv wr w.heap.size inst (N : Int) L N k) := hinv
      obtain ⟨zk, hzk⟩ : ∃ z, z = Z k := ⟨_, rfl⟩
      rw [← hzk] at z0
      clear hinv hsz hu0 hb hzk
      go_upto_region 6 with fail
      have hne1 : w.heap.size + 1 ≠ cp := by have := hcp (by omega); omega
      have hne2 : w.heap.size ≠ cp := by have := hcp (by omega); omega
      go_region_held (fun w' => w'.cell? ⟨w.heap.size, 0, none⟩ = some (.int .i64 (L : Int)) ∧ w'.cell? ⟨w.heap.size, 1, none⟩ = some .nilFunc ∧ w'.cell? ⟨w.heap.size, 2, none⟩ = some (.bool inst) ∧ w'.cell? ⟨cp, k, none⟩ = some (.int .i64 zk)) (go_keep) ((go_at_call 26; refine (newLoops_post _ _ _ _ hL).mono ?_; rintro e w' ⟨rfl, hpost⟩; have hp1 := hpost.ofDrew; clear hpost; have b0 := hp1.cell hx a0; have b1 := hp1.cell hx a1; have b2 := hp1.cell hx a2; have y0 := hp1.cell hcx z0; have q0 := hp1.cell hx1 p0; have qf := hp1.frozen hx1 pf; have hx' := hp1.lt hx; have hx1' := hp1.lt hx1; have hcx' := hp1.lt hcx))
      all_goals
        have HS : Hid _ := pinv_step (v := zk) HI.out hlt hp1
        have HBB : Hid (Below w.heap.size w ((w'.setCell ⟨w.heap.size + 1, k, none⟩ (.iface 32 (.pointer (some ⟨w'.heap.size, 0, none⟩)))).alloc (.cells (ledCells L inst ((k : Int) + 1) zk wr.heap.size) 59))) := pbelow_step hbel (by omega) hp1
        clear hp1
        go_wp2
        go_roundw
        case rel => exact ⟨k + 1, by go_num, by omega, HS.out, HBB.out⟩
        case measure => simp [intOf]; omega
    · obtain rfl : k = N := by omega
      have HX : Hid (PInv wr w.heap.size inst (k : Int) L k k) := hinv
      clear hinv
      go_wp2
      go_ret
      exact ⟨rfl, HX.out, hbel⟩
end Go.Proofs.Qxb6603556a
