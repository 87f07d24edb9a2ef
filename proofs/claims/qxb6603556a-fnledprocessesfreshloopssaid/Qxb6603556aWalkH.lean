/-
  DERIVED. The walk of 'FnLedProcessesFreshLoops' (3): no loops; no proposals; the early ways out.
-/
import Derived.Test.Qxb6603556aWalkF
namespace Go.Proofs.Qxb6603556a
open Go.RowKit
set_option linter.unusedVariables false

set_option maxRecDepth 100000 in
set_option maxHeartbeats 1600000 in
theorem law_zero (L N len cap : Nat) (inst : Bool) (x : Addr) (z : Nat → Int) (w : World) (hL : L ≤ 65536) (hN : N ≤ 65536) (hlen : len ≤ 131072) (hNl : N ≤ len)
    (hg1 : decide ((0 : Int) < (L : Int)) = false) (hL0 : L ≤ 0)
    (hx : 0 < len → x.block < w.heap.size) (hc : ∀ i, i < len → w.cell? (x.add i) = some (.int .i64 (z i))) :
    Calls Try.prog 3 #[.int .i64 (L : Int), .bool inst, .int .i64 (N : Int), .slice (some x) len cap] w fun e w' => e = .returned (.bool true) ∧ Below w.heap.size w w' := by
  have m22 := make22 len hlen
  have n22 := fun (w : World) (a : Option Addr) (n c : Nat) => run_neq_slice_nil_any (P := Try.prog) w 22 3 a n c 0 0 Try.underlying22
  have HC : Hid (∀ i, i < len → w.cell? (x.add i) = some (.int .i64 (z i))) := hc
  clear hc
  go_enter Try.func3, Try.ntmps3
  go_wp2_with (go_at_call 4; go_in)
  clear m22 n22
  have HCP : Hid _ := cp_start w len z
  go_loopw [10] (fun i wr => ∃ k : Nat, i = .int .i64 k ∧ k ≤ len ∧ CpInv w wr len z k) (fun i _ => len - (intOf i).toNat)
  case atStart => exact ⟨0, rfl, Nat.zero_le _, HCP.out⟩
  case round =>
    clear HCP
    obtain ⟨k, rfl, hk, hcp⟩ := hrel
    by_cases hlt : k < len
    · have ck : wr.cell? (x.add k) = some (.int .i64 (z k)) := by
        rw [hcp.low.cell (p := x.add k) (by rw [add_block]; exact hx (by omega))]; exact HC.out k hlt
      have r0 := hcp.row.cell hlt
      have rf := hcp.row.frozen k
      have HCP : Hid _ := cp_step hcp
      obtain ⟨u, hu⟩ : ∃ u, u = zf z k k := ⟨_, rfl⟩
      rw [← hu] at r0
      obtain ⟨zk, hzk⟩ : ∃ u, u = z k := ⟨_, rfl⟩
      rw [← hzk] at ck HCP
      clear hcp hu hzk
      go_wp2
      go_roundw
      case rel => exact ⟨k + 1, by go_num, by omega, HCP.out⟩
      case measure => simp [intOf]; omega
    · have hke : k = len := by omega
      have HCP : Hid (CpInv w wr len z k) := hcp
      clear hcp
      go_wp2_with fail
      have hsz2 : (wr.alloc (.cells #[.int .i64 (L : Int), .nilFunc, .bool inst] 26)).heap.size = w.heap.size + 2 := by have := HCP.out.size; simp; omega
      have hbl2 : Below w.heap.size w (wr.alloc (.cells #[.int .i64 (L : Int), .nilFunc, .bool inst] 26)) := HCP.out.low.alloc HCP.out.low.size _
      refine (procs_any L N w.heap.size len len inst z _ hL hN hNl (fun _ => by omega) ?_).mono ?_
      · intro j hj
        have h1 : w.heap.size < wr.heap.size := by have := HCP.out.size; omega
        rw [World.cell?_alloc_lt _ _ _ (by exact h1), HCP.out.row.cell hj]
        unfold zf; rw [if_pos (by omega)]
      · rintro e w1 ⟨rfl, hpinv, hb1⟩
        rw [hsz2] at hpinv hb1 ⊢
        have hbl1 : Below w.heap.size w w1 := hbl2.trans (hb1.mono (by omega))
        have HP : Hid (PInv w1 (w.heap.size + 2) inst (N : Int) L N N) := hpinv
        have HZ1 : Hid (w1.heap.size = pbase (w.heap.size + 2) L N) := hpinv.size
        clear hpinv hb1 hbl2 hsz2 HCP hke
        have hmm := @run_makeMap Try.prog
        go_wp2
        have HO : Hid _ := (oinv_start w1).up (Nat.zero_le (pbase (w.heap.size + 2) L 0))
        obtain ⟨m, hm⟩ : ∃ m, m = w1.heap.size := ⟨_, rfl⟩
        rw [← hm] at HZ1 HO ⊢
        have HM : Hid (m = w1.heap.size) := hm
        clear hm hmm
        go_loopw [16] (fun i wr => ∃ k : Nat, i = .int .i64 k ∧ k ≤ N ∧ OInv w1 wr m (pbase (w.heap.size + 2) L k)) (fun i _ => N - (intOf i).toNat)
        case atStart => exact ⟨0, rfl, Nat.zero_le _, HO.out⟩
        case round =>
          clear HO
          obtain ⟨i, rfl, hi, hoi⟩ := hrel
          by_cases hlt : i < N
          · obtain ⟨y, hy⟩ : ∃ y, y = pbase (w.heap.size + 2) L i := ⟨_, rfl⟩
            have hym : y + 5 + 3 * L ≤ m := by rw [hy, HZ1.out]; exact pbase_lt _ _ _ _ hlt
            have hyx : w.heap.size + 4 ≤ y := by rw [hy]; have := pbase_ge (w.heap.size + 2) L i; omega
            have HY : Hid (y + 5 + 3 * L = pbase (w.heap.size + 2) L (i + 1)) := by unfold Hid; rw [hy, pbase_succ]
            have hproc : ProcAt w1 y ((i : Int) + 1) (N : Int) L := by rw [hy]; exact HP.out.procs i hlt
            have p0 : wr.cell? ⟨w.heap.size + 2 + 1, i, none⟩ = some (.iface 32 (.pointer (some ⟨y + 4 + 3 * L, 0, none⟩))) := by
              rw [hoi.ci.low.cell (p := ⟨w.heap.size + 2 + 1, i, none⟩) (by show w.heap.size + 2 + 1 < m; omega), HP.out.prow.cell hlt]
              unfold pfun; rw [if_pos hlt, hy]
            rw [← hy] at hoi
            have HPR : Hid (ProcAt w1 y ((i : Int) + 1) (N : Int) L) := hproc
            have hpr : ProcAt wr y ((i : Int) + 1) (N : Int) L := hproc.keep (fun j h1 h2 => hoi.ci.low.block j (by omega))
            obtain ⟨lb, sb, ab, hmem1⟩ := HPR.out.mem
            have hmem : LoopsMem wr y ((i : Int) + 1) (N : Int) L lb sb ab := hmem1.keep (fun j h1 h2 => hoi.ci.low.block j (by omega))
            obtain ⟨v, inst2, hled⟩ := hpr.led
            have l5 : wr.cell? ⟨y + 4 + 3 * L, 5, none⟩ = some (.pointer (some ⟨y + 3, 0, none⟩)) := blk_cell hled 5
            obtain ⟨hlook, w2, hupd, hlo⟩ := outer_step hoi hmem hym
            have HMW : Hid (∀ wz, CInv w1 wz m → LoopsMem wz y ((i : Int) + 1) (N : Int) L lb sb ab) := fun wz hc => hmem1.keep (fun j h1 h2 => hc.low.block j (by omega))
            have bx := (HMW.out w2 hlo.ci).seen
            have b2 := bx.b2
            have b3 := bx.b3
            have b4 := bx.b4
            have HLO : Hid (LoInv w1 w2 m y 0) := hlo
            clear bx hlo hled hmem hmem1 hpr hproc hoi hy HPR
            go_wp2_with (first | (go_at_call 6; refine (asLed_any _ _).mono ?_; rintro e w' ⟨rfl, rfl⟩) | (go_at_call 7; refine (get7 (by assumption)).mono ?_; rintro e w' ⟨rfl, rfl⟩) | (go_at_call 8; refine (get8 (by assumption)).mono ?_; rintro e w' ⟨rfl, rfl⟩) | (go_at_call 9; refine (get9 (by assumption)).mono ?_; rintro e w' ⟨rfl, rfl⟩) | (go_at_call 10; refine (get10 (by assumption)).mono ?_; rintro e w' ⟨rfl, rfl⟩))
            clear p0 l5 hlook hupd b2 b3 b4
            go_loopw [20] (fun j wr => ∃ c : Nat, j = .int .i64 c ∧ c ≤ L ∧ LoInv w1 wr m y c) (fun j _ => L - (intOf j).toNat)
            case atStart => exact ⟨0, rfl, Nat.zero_le _, HLO.out⟩
            case round =>
              clear HLO
              obtain ⟨c, rfl, hcl, hlo⟩ := hrel
              by_cases hcL : c < L
              · have hm0 := HMW.out wr hlo.ci
                have hla := hm0.loops c hcL
                obtain ⟨k30, w3, u30, hc3, k31, w4, u31, hlo4⟩ := inner_step hlo hla (by omega)
                have hm3 := HMW.out w3 hc3
                have hm4 := HMW.out w4 hlo4.ci
                have bx := hm0.seen
                have bx4 := hm4.seen
                have rx := hm0.rows hcL
                have rx4 := hm4.rows hcL
                have sx3 := (hm3.loops c hcL).seen
                have sx4 := (hm4.loops c hcL).seen
                have rl := rx.l
                have HLO : Hid (LoInv w1 w4 m y (c + 1)) := hlo4
                clear hm0 hla hm3 hm4 hlo hlo4 hc3
                obtain ⟨q, hq⟩ : ∃ q, q = y + 4 + 3 * c := ⟨_, rfl⟩
                rw [← hq] at k30 u30 k31 u31 sx3 sx4 rl
                clear hq
                have b2 := bx.b2
                have c3 := bx4.b3
                have c4 := bx4.b4
                have s0 := rx4.s0
                have s1 := rx4.s1
                have sa := rx4.a
                have d0 := sx3.l0
                have d1 := sx3.l1
                have d2 := sx3.l2
                have e0 := sx4.o0
                have e1 := sx4.o1
                have e2 := sx4.o2
                have e3 := sx4.o3
                have e4 := sx4.o4
                have e5 := sx4.o5
                have e6 := sx4.o6
                have e7 := sx4.b1
                clear bx bx4 rx rx4 sx3 sx4
                go_wp2_with (first | (go_at_call 12; refine (get12 (by assumption)).mono ?_; rintro e w' ⟨rfl, rfl⟩) | (go_at_call 13; refine (get13 (by assumption)).mono ?_; rintro e w' ⟨rfl, rfl⟩) | (go_at_call 14; refine (get14 (by assumption)).mono ?_; rintro e w' ⟨rfl, rfl⟩) | (go_at_call 15; refine (get15 (by assumption)).mono ?_; rintro e w' ⟨rfl, rfl⟩) | (go_at_call 16; refine (get16 (by assumption)).mono ?_; rintro e w' ⟨rfl, rfl⟩) | (go_at_call 17; refine (get17 (by assumption)).mono ?_; rintro e w' ⟨rfl, rfl⟩) | (go_at_call 18; refine (get18 (by assumption)).mono ?_; rintro e w' ⟨rfl, rfl⟩) | (go_at_call 19; refine (get19 (by assumption)).mono ?_; rintro e w' ⟨rfl, rfl⟩) | (go_at_call 20; refine (get20 (by assumption)).mono ?_; rintro e w' ⟨rfl, rfl⟩) | (go_at_call 21; refine (get21 (by assumption)).mono ?_; rintro e w' ⟨rfl, rfl⟩) | (go_at_call 22; refine (get22 (by assumption)).mono ?_; rintro e w' ⟨rfl, rfl⟩) | (go_at_call 11; refine (get11 hL (by assumption) (by assumption) (by assumption)).mono ?_; rintro e w' ⟨rfl, rfl⟩) | (go_at_call 23; refine (get23 hL (by assumption) (by assumption) (by assumption)).mono ?_; rintro e w' ⟨rfl, rfl⟩) | (go_at_call 24; refine (get24 hL (by assumption) (by assumption) (by assumption)).mono ?_; rintro e w' ⟨rfl, rfl⟩) | (go_at_call 25; refine (get25 hL (by assumption) (by assumption) (by assumption)).mono ?_; rintro e w' ⟨rfl, rfl⟩))
                go_roundw
                case rel => exact ⟨c + 1, by go_num, by omega, HLO.out⟩
                case measure => simp [intOf]; omega
              · obtain rfl : c = L := by omega
                have HD : Hid (OInv w1 wr m (pbase (w.heap.size + 2) c (i + 1))) := by unfold Hid; rw [← HY.out]; exact hlo.done
                clear hlo
                go_wp2
                go_roundw
                case rel => exact ⟨i + 1, by go_num, by omega, HD.out⟩
                case measure => simp [intOf]; omega
          · have HF : Hid (Below w.heap.size w wr) := hbl1.trans (hoi.ci.low.mono (by rw [HM.out]; exact hbl1.size))
            clear hoi
            go_wp2
            go_ret
            exact ⟨rfl, HF.out⟩

set_option maxHeartbeats 400000 in
theorem procs_nil (L N : Nat) (inst : Bool) (w : World) (hN : N ≤ 0) :
    Calls Try.prog 5 #[.agg #[.int .i64 (L : Int), .nilFunc, .bool inst], .int .i64 (N : Int), .slice none 0 0] w fun e w' =>
      e = .returned (.slice (some ⟨w.heap.size + 1, 0, none⟩) N N) ∧ Below w.heap.size w w' := by
  have m27 := make27 N (by omega)
  go_enter Try.func5, Try.ntmps5
  go_wp2
  have HS : Hid (Below w.heap.size w ((w.alloc (.cells #[.int .i64 (L : Int), .nilFunc, .bool inst] 26)).alloc (.cells (madeCells #[.nilIface] N) 35))) := ((Below.refl _ _).alloc (Nat.le_refl _) _).alloc (by simp) _
  go_loopw [14] (fun i wr => i = .int .i64 0 ∧ Below w.heap.size w wr) (fun _ _ => 0)
  case atStart => exact ⟨rfl, HS.out⟩
  case round =>
    clear HS m27
    obtain ⟨rfl, hbel⟩ := hrel
    go_wp2
    go_ret
    exact ⟨rfl, hbel⟩

set_option maxRecDepth 100000 in
set_option maxHeartbeats 1600000 in
theorem nil_main (L N : Nat) (inst : Bool) (w : World) (hL : L ≤ 65536) (hN : N ≤ 0) (hg1 : decide ((0 : Int) < (L : Int)) = true) (hg2 : decide ((1048576 : Int) / (L : Int) < (N : Int)) = false) (hL0 : 0 < L) :
    Calls Try.prog 3 #[.int .i64 (L : Int), .bool inst, .int .i64 (N : Int), .slice none 0 0] w fun e w' => e = .returned (.bool true) ∧ Below w.heap.size w w' := by
  have n22 := fun (w : World) (a : Option Addr) (n c : Nat) => run_neq_slice_nil_any (P := Try.prog) w 22 3 a n c 0 0 Try.underlying22
  have hmm := @run_makeMap Try.prog
  go_enter Try.func3, Try.ntmps3
  go_wp2_with (go_at_call 4; go_in)
  have hbl2 : Below w.heap.size w (w.alloc (.cells #[.int .i64 (L : Int), .nilFunc, .bool inst] 26)) := (Below.refl _ _).alloc (Nat.le_refl _) _
  refine (procs_nil L N inst _ hN).mono ?_
  rintro e w1 ⟨rfl, hb1⟩
  have hbl1 : Below w.heap.size w w1 := hbl2.trans (hb1.mono (by simp))
  have HB : Hid (Below w.heap.size w (((w1.alloc (.map #[] 0)).alloc (.map #[] 0)).alloc (.map #[] 0))) :=
    ((hbl1.alloc hbl1.size _).alloc (by have := hbl1.size; simp only [World.size_alloc]; omega) _).alloc (by have := hbl1.size; simp only [World.size_alloc]; omega) _
  clear hb1 hbl2
  go_wp2
  go_loopw [16] (fun i wr => i = .int .i64 0 ∧ Below w.heap.size w wr) (fun _ _ => 0)
  case atStart => exact ⟨rfl, HB.out⟩
  case round =>
    clear HB
    obtain ⟨rfl, hbel⟩ := hrel
    go_wp2
    go_ret
    exact ⟨rfl, hbel⟩

set_option maxRecDepth 100000 in
set_option maxHeartbeats 1600000 in
theorem nil_zero (L N : Nat) (inst : Bool) (w : World) (hL : L ≤ 65536) (hN : N ≤ 0) (hg1 : decide ((0 : Int) < (L : Int)) = false) (hL0 : L ≤ 0) :
    Calls Try.prog 3 #[.int .i64 (L : Int), .bool inst, .int .i64 (N : Int), .slice none 0 0] w fun e w' => e = .returned (.bool true) ∧ Below w.heap.size w w' := by
  have n22 := fun (w : World) (a : Option Addr) (n c : Nat) => run_neq_slice_nil_any (P := Try.prog) w 22 3 a n c 0 0 Try.underlying22
  have hmm := @run_makeMap Try.prog
  go_enter Try.func3, Try.ntmps3
  go_wp2_with (go_at_call 4; go_in)
  have hbl2 : Below w.heap.size w (w.alloc (.cells #[.int .i64 (L : Int), .nilFunc, .bool inst] 26)) := (Below.refl _ _).alloc (Nat.le_refl _) _
  refine (procs_nil L N inst _ hN).mono ?_
  rintro e w1 ⟨rfl, hb1⟩
  have hbl1 : Below w.heap.size w w1 := hbl2.trans (hb1.mono (by simp))
  have HB : Hid (Below w.heap.size w (((w1.alloc (.map #[] 0)).alloc (.map #[] 0)).alloc (.map #[] 0))) :=
    ((hbl1.alloc hbl1.size _).alloc (by have := hbl1.size; simp only [World.size_alloc]; omega) _).alloc (by have := hbl1.size; simp only [World.size_alloc]; omega) _
  clear hb1 hbl2
  go_wp2
  go_loopw [16] (fun i wr => i = .int .i64 0 ∧ Below w.heap.size w wr) (fun _ _ => 0)
  case atStart => exact ⟨rfl, HB.out⟩
  case round =>
    clear HB
    obtain ⟨rfl, hbel⟩ := hrel
    go_wp2
    go_ret
    exact ⟨rfl, hbel⟩

end Go.Proofs.Qxb6603556a
