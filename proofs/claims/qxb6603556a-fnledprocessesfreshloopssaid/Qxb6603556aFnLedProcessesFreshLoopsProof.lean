/-
  A proof of 'Rows.FnLedProcessesFreshLoopsSaid'. The frame was written by the guide's program; the walk is ours.
-/
import Derived.Test.Qxb6603556aRows
import Derived.WalkKit
import Derived.ProofKit
import Derived.OpenShut
import Derived.ShutString
import Derived.ChangeOld
import Derived.Below
import Derived.Test.Qxb6603556aWalkH
namespace Go.Proofs.Qxb6603556a.fnLedProcessesFreshLoops
open Go.ChangeShapes Go.WideShapes Go.ChangeAt Go.RowKit
open Go.ChangeMaps (open_string shut_string)
set_option linter.unusedVariables false

theorem own : ownKnob Try.prog.godebug = none := by kernel_rfl
theorem laidOut : laidOutB Try.prog = true := by kernel_rfl

/-- WHAT THE WALK IS TOLD OF A SLICE OF INTEGERS THAT CAME IN: it is nil; or it leads to a row of 'cap' cells, the numbers 'zs' (the first 'len' are its elements, the rest its spare room), each fitting its kind. -/
def IsRow (k : IntKind) (w : World) (a : Option Addr) (len cap : Nat) (zs : List Int) : Prop :=
  (a = none ∧ len = 0 ∧ cap = 0 ∧ zs = []) ∨
  ∃ x, a = some x ∧ len ≤ cap ∧ cap ≤ maxLen ∧ zs.length = cap ∧ (∀ i, i < zs.length → w.cell? (x.add i) = some (.int k (zs.getD i 0))) ∧ ∀ n ∈ zs, (Lit.int k n).wf = true

theorem bnd (a : Int) (h : (Lit.int .i64 a).wf = true) : -9223372036854775808 ≤ a ∧ a ≤ 9223372036854775807 := by
  simp only [Lit.wf, IntKind.min, IntKind.max, IntKind.signed, IntKind.bits, Bool.and_eq_true, decide_eq_true_eq, if_true] at h
  omega

set_option maxRecDepth 100000 in
set_option maxHeartbeats 400000 in
theorem early_len (a0 : Int) (a1 : Bool) (a2 : Int) (a3 : Option Addr) (len cap : Nat) (w : World) (h : 131072 < len) (hm : len ≤ 9223372036854775807) :
    Calls Try.prog 3 #[.int .i64 a0, .bool a1, .int .i64 a2, .slice a3 len cap] w fun e w' => e = .returned (.bool true) ∧ Below w.heap.size w w' := by
  by_cases h2 : 1048576 < len
  · go_enter Try.func3, Try.ntmps3
    go_wp2
    go_ret
    exact ⟨rfl, Below.refl _ _⟩
  · go_enter Try.func3, Try.ntmps3
    go_wp2
    go_ret
    exact ⟨rfl, Below.refl _ _⟩

set_option maxRecDepth 100000 in
set_option maxHeartbeats 400000 in
theorem early_loops (a0 : Int) (a1 : Bool) (a2 : Int) (a3 : Option Addr) (len cap : Nat) (w : World) (h : len ≤ 131072) (h0 : a0 < 0 ∨ 65536 < a0) :
    Calls Try.prog 3 #[.int .i64 a0, .bool a1, .int .i64 a2, .slice a3 len cap] w fun e w' => e = .returned (.bool true) ∧ Below w.heap.size w w' := by
  rcases h0 with h0 | h0
  · go_enter Try.func3, Try.ntmps3
    go_wp2
    go_ret
    exact ⟨rfl, Below.refl _ _⟩
  · have h1 : ¬ a0 < 0 := by omega
    go_enter Try.func3, Try.ntmps3
    go_wp2
    go_ret
    exact ⟨rfl, Below.refl _ _⟩

set_option maxRecDepth 100000 in
set_option maxHeartbeats 400000 in
theorem early_n (L : Nat) (a1 : Bool) (a2 : Int) (a3 : Option Addr) (len cap : Nat) (w : World) (h : len ≤ 131072) (hL : L ≤ 65536) (h0 : a2 < 0 ∨ 65536 < a2) :
    Calls Try.prog 3 #[.int .i64 (L : Int), .bool a1, .int .i64 a2, .slice a3 len cap] w fun e w' => e = .returned (.bool true) ∧ Below w.heap.size w w' := by
  rcases h0 with h0 | h0
  · go_enter Try.func3, Try.ntmps3
    go_wp2
    go_ret
    exact ⟨rfl, Below.refl _ _⟩
  · have h1 : ¬ a2 < 0 := by omega
    go_enter Try.func3, Try.ntmps3
    go_wp2
    go_ret
    exact ⟨rfl, Below.refl _ _⟩

set_option maxRecDepth 100000 in
set_option maxHeartbeats 400000 in
theorem early_more (L N : Nat) (a1 : Bool) (a3 : Option Addr) (len cap : Nat) (w : World) (h : len ≤ 131072) (hL : L ≤ 65536) (hN : N ≤ 65536) (h0 : len < N) :
    Calls Try.prog 3 #[.int .i64 (L : Int), .bool a1, .int .i64 (N : Int), .slice a3 len cap] w fun e w' => e = .returned (.bool true) ∧ Below w.heap.size w w' := by
  go_enter Try.func3, Try.ntmps3
  go_wp2
  go_ret
  exact ⟨rfl, Below.refl _ _⟩

set_option maxRecDepth 100000 in
set_option maxHeartbeats 400000 in
theorem early_many (L N : Nat) (a1 : Bool) (a3 : Option Addr) (len cap : Nat) (w : World) (h : len ≤ 131072) (hL : L ≤ 65536) (hN : N ≤ 65536) (h0 : N ≤ len) (hL0 : 0 < L) (hg1 : decide ((0 : Int) < (L : Int)) = true) (hg2 : decide ((1048576 : Int) / (L : Int) < (N : Int)) = true) :
    Calls Try.prog 3 #[.int .i64 (L : Int), .bool a1, .int .i64 (N : Int), .slice a3 len cap] w fun e w' => e = .returned (.bool true) ∧ Below w.heap.size w w' := by
  go_enter Try.func3, Try.ntmps3
  go_wp2
  go_ret
  exact ⟨rfl, Below.refl _ _⟩

theorem walk (a0 : Int) (a1 : Bool) (a2 : Int) (a3 : Option Addr) (len3 cap3 : Nat) (z3 : List Int) (w : World) (w0 : (Lit.int .i64 a0).wf = true) (w2 : (Lit.int .i64 a2).wf = true) (w3 : IsRow .i64 w a3 len3 cap3 z3) :
    Calls Try.prog 3 #[.int .i64 a0, .bool a1, .int .i64 a2, .slice a3 len3 cap3] w fun e w' => e = .returned (.bool true) ∧ Below w.heap.size w w' := by
  have hlm : len3 ≤ 9223372036854775807 := by
    rcases w3 with ⟨_, h, _⟩ | ⟨_, _, h1, h2, _⟩
    · omega
    · unfold maxLen at h2; omega
  by_cases h1 : 131072 < len3
  · exact early_len a0 a1 a2 a3 len3 cap3 w h1 hlm
  · by_cases h2 : a0 < 0 ∨ 65536 < a0
    · exact early_loops a0 a1 a2 a3 len3 cap3 w (by omega) h2
    · obtain ⟨L, rfl⟩ : ∃ K : Nat, a0 = K := ⟨a0.toNat, by omega⟩
      by_cases h3 : a2 < 0 ∨ 65536 < a2
      · exact early_n L a1 a2 a3 len3 cap3 w (by omega) (by omega) h3
      · obtain ⟨N, rfl⟩ : ∃ K : Nat, a2 = K := ⟨a2.toNat, by omega⟩
        by_cases h4 : len3 < N
        · exact early_more L N a1 a3 len3 cap3 w (by omega) (by omega) (by omega) h4
        · by_cases h5 : 0 < L
          · have hg1 : decide ((0 : Int) < (L : Int)) = true := by simpa using h5
            by_cases h6 : (1048576 : Int) / (L : Int) < (N : Int)
            · exact early_many L N a1 a3 len3 cap3 w (by omega) (by omega) (by omega) (by omega) h5 hg1 (by simpa using h6)
            · have hg2 : decide ((1048576 : Int) / (L : Int) < (N : Int)) = false := decide_eq_false h6
              rcases w3 with ⟨rfl, rfl, rfl, _⟩ | ⟨x, rfl, g1, g2, g3, g4, _⟩
              · exact nil_main L N a1 w (by omega) (by omega) hg1 hg2 h5
              · have hc : ∀ i, i < len3 → w.cell? (x.add i) = some (.int .i64 (z3.getD i 0)) := fun i hi => g4 i (by omega)
                exact law_main L N len3 cap3 a1 x (fun i => z3.getD i 0) w (by omega) (by omega) (by omega) (by omega) hg1 hg2 h5 (fun h => by
                  have := World.block_lt_of_cell? _ _ (hc 0 h); rw [add_block] at this; exact this) hc
          · have hg1 : decide ((0 : Int) < (L : Int)) = false := decide_eq_false (by omega)
            rcases w3 with ⟨rfl, rfl, rfl, _⟩ | ⟨x, rfl, g1, g2, g3, g4, _⟩
            · exact nil_zero L N a1 w (by omega) (by omega) hg1 (by omega)
            · have hc : ∀ i, i < len3 → w.cell? (x.add i) = some (.int .i64 (z3.getD i 0)) := fun i hi => g4 i (by omega)
              exact law_zero L N len3 cap3 a1 x (fun i => z3.getD i 0) w (by omega) (by omega) (by omega) (by omega) hg1 (by omega) (fun h => by
                have := World.block_lt_of_cell? _ _ (hc 0 h); rw [add_block] at this; exact this) hc

/-! ### THE ROW's STEP -/
set_option maxRecDepth 100000 in
theorem lifted (os : Os) (started : os.Started) (H : Type) (enc : TypeId × Value → H) :
    ReturnsInHanded {} Try.checked os 3 .any (Rows.fnLedProcessesFreshLoopsSpec.pre6 enc Try.prog Try.f3 Rows.fnLedProcessesFreshLoopsRow.domain false) (Rows.fnLedProcessesFreshLoopsSpec.post enc Try.prog Try.f3 false true false false) := by
  refine returnsInHanded_of_change (C := Try.checked) own started (by kernel_rfl) Try.func3
    (ChangeSpec.witness6 (enc := enc) (C := Try.checked) false ⟨#[], #[.int .i64 0, .bool false, .int .i64 0, .slice none 0 0], []⟩ 8 (by kernel_rfl) (by kernel_rfl) (by kernel_rfl) (by kernel_rfl)) ?_
  intro W base args ds gs before hval0 hW hcnd _
  have hval : ∀ (j : Nat) t v, Try.f3.params[j]? = some t → args[j]? = some v → Value.okWide Try.prog W .any base t v := hval0
  have hW' := hW
  obtain ⟨p, q, hA0, hV, rfl, hfz, hnd⟩ := hW
  have hA : DataW.TrodAll enc Try.prog W 0 (fun _ => true) true Try.f3.params.toList args.toList ds p := hA0
  rw [Try.params3] at hA hval
  obtain ⟨v0, vs0, d0, ds0, p0, q0, hargs, rfl, rfl, h0, r0⟩ := trodAll_cons hA
  obtain ⟨v1, vs1, d1, ds1, p1, q1, rfl, rfl, rfl, h1, r1⟩ := trodAll_cons r0
  obtain ⟨v2, vs2, d2, ds2, p2, q2, rfl, rfl, rfl, h2, r2⟩ := trodAll_cons r1
  obtain ⟨v3, vs3, d3, ds3, p3, q3, rfl, rfl, rfl, h3, r3⟩ := trodAll_cons r2
  obtain ⟨rfl, rfl, rfl⟩ := trodAll_nil r3
  obtain rfl : args = #[v0, v1, v2, v3] := by cases args; simp_all
  obtain ⟨rfl, rfl⟩ := trodVars_none hV
  obtain ⟨a0, rfl, rfl, rfl, w0⟩ := open_int Try.underlying3 (hval 0 3 v0 rfl rfl) h0
  obtain ⟨a1, rfl, rfl, rfl⟩ := open_bool Try.underlying4 (hval 1 4 v1 rfl rfl) h1
  obtain ⟨a2, rfl, rfl, rfl, w2⟩ := open_int Try.underlying3 (hval 2 3 v2 rfl rfl) h2
  obtain ⟨a3, len3, cap3, rfl⟩ := okWide_slice Try.underlying22 (hval 3 22 v3 rfl rfl)
  have k3 := h3
  have lt3 : ∀ x ∈ p3, x.block < W.heap.size := by obtain ⟨m, hm⟩ := k3; exact DataW.trod_lt m _ _ _ hm
  obtain ⟨z3, w3⟩ : ∃ zs, IsRow .i64 W a3 len3 cap3 zs := by
    obtain ⟨fuel, hf⟩ := h3
    rcases open_ints Try.underlying22 Try.underlying3 (by kernel_rfl) hf with ⟨hcs, _⟩ | ⟨x, l, c, zs, hcs, _, hl, hm, hz, _, hcell, hwz⟩
    · simp [Value.cells] at hcs
      obtain ⟨rfl, rfl, rfl⟩ := hcs
      exact ⟨[], .inl ⟨rfl, rfl, rfl, rfl⟩⟩
    · simp [Value.cells] at hcs
      obtain ⟨rfl, rfl, rfl⟩ := hcs
      exact ⟨zs, .inr ⟨_, rfl, hl, hm, by simpa using hz, hcell, hwz⟩⟩
  clear hA0 hval0
  refine (walk a0 a1 a2 a3 len3 cap3 z3 W w0 w2 w3).mono fun e W' ⟨he, bel⟩ => ?_
  subst he
  exact ⟨_, rfl, _, _, _, [], _, [], hW', trodAll_mk1 (shut_bool Try.underlying4 _), (trodAll_cons_mk (shut_int Try.underlying3 w0) (trodAll_cons_mk (shut_bool Try.underlying4 _) (trodAll_cons_mk (shut_int Try.underlying3 w2) (trodAll_cons_mk (Below.trod laidOut (by kernel_rfl) (of_decide_eq_true (by kernel_rfl)) k3 bel lt3) trodAll_mk0)))), rfl, bel.frame _, fun h => by cases h⟩

theorem over : Rows.fnLedProcessesFreshLoopsRow.holds Try.pinned (OpenSpec.ofChange Rows.fnLedProcessesFreshLoopsSpec) :=
  OpenClaim.holds_of_wide 3 Try.f3 rfl rfl rfl rfl rfl rfl rfl ⟨rfl, rfl, rfl, rfl, rfl⟩ rfl rfl rfl rfl rfl (by kernel_rfl) Try.func3 (by kernel_rfl)
    (of_decide_eq_true (by kernel_rfl)) (by unfold Func.isWrapper; first | (rw [if_pos (by decide +kernel)]; kernel_rfl) | (rw [if_neg (by decide +kernel)]; exact ⟨rfl, rfl⟩))
    (fun os started H enc _ => lifted os started H enc)

/-- THE STATEMENT -/
theorem proved : Rows.FnLedProcessesFreshLoopsSaid := over
end Go.Proofs.Qxb6603556a.fnLedProcessesFreshLoops
