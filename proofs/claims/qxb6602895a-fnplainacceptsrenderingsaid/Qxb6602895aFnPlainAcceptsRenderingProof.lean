/-
  A proof of 'Rows.FnPlainAcceptsRenderingSaid'. The frame was written by the guide's program; the walk is ours.
-/
import Derived.Test.Qxb6602895aRows
import Derived.WalkKit
import Derived.ProofKit
import Derived.OpenShut
import Derived.ShutString
import Derived.ChangeOld
import Derived.Below
import Derived.Test.Qxb6602895aWalkR
import Derived.Test.Qxb6602895aWalkP
import Derived.Test.Qxb6602895aPlainD
namespace Go.Proofs.Qxb6602895a.fnPlainAcceptsRendering
open Go.ChangeShapes Go.WideShapes Go.ChangeAt Go.RowKit
open Go.ChangeMaps (open_string shut_string)
set_option linter.unusedVariables false

theorem own : ownKnob Try.prog.godebug = none := by kernel_rfl

theorem bnd (a : Int) (h : (Lit.int .i64 a).wf = true) : -9223372036854775808 ≤ a ∧ a ≤ 9223372036854775807 := by
  simp only [Lit.wf, IntKind.min, IntKind.max, IntKind.signed, IntKind.bits, Bool.and_eq_true, decide_eq_true_eq, if_true] at h
  omega

theorem render_any (c : Int) (K : Nat) (w : World) (hc1 : -9223372036854775808 ≤ c) (hc2 : c ≤ 9223372036854775807) (hK : K ≤ 65536) :
    Calls Try.prog 13 #[.int .i64 c, .int .i64 K] w fun e w' => ∃ s L neg U, e = .returned (.string s) ∧ Rend neg U K s.data.toList L ∧ (if neg then -(U : Int) else (U : Int)) = c ∧ Below w.heap.size w w' := by
  by_cases hc : c < 0
  · refine (render_neg c K w hc hc1 hK).mono ?_
    rintro e w' ⟨s, L, rfl, h, hb⟩
    exact ⟨s, L, true, _, rfl, h, by simp; omega, hb⟩
  · refine (render_pos c K w (by omega) hc2 hK).mono ?_
    rintro e w' ⟨s, L, rfl, h, hb⟩
    exact ⟨s, L, false, _, rfl, h, by simp; omega, hb⟩

set_option maxHeartbeats 400000 in
theorem walk (a0 : Int) (a1 : Int) (w0 : (Lit.int .i64 a0).wf = true) (w1 : (Lit.int .i64 a1).wf = true) (w : World) :
    Calls Try.prog 5 #[.int .i64 a0, .int .i64 a1] w fun e w' => e = .returned (.bool true) ∧ Below w.heap.size w w' := by
  have b0 := bnd a0 w0
  have b1 := bnd a1 w1
  clear w0 w1
  by_cases hk0 : a1 < 0
  · go_enter Try.func5, Try.ntmps5
    go_wp2
    go_ret
    exact ⟨rfl, Below.refl _ _⟩
  · by_cases hk1 : 65536 < a1
    · go_enter Try.func5, Try.ntmps5
      go_wp2
      go_ret
      exact ⟨rfl, Below.refl _ _⟩
    · obtain ⟨K, rfl⟩ : ∃ K : Nat, a1 = K := ⟨a1.toNat, by omega⟩
      go_enter Try.func5, Try.ntmps5
      go_wp2_with fail
      refine (render_any a0 K w b0.1 b0.2 (by omega)).mono ?_
      rintro e w1 ⟨s, L, neg, U, rfl, hr, hv, hb⟩
      have HG : Hid (Good s.data.toList) := rend_good hr
      have hl := rend_len hr
      rw [len_list] at hl
      clear hr hv
      go_wp2_with fail
      refine (zplain_any s _ (by omega)).mono ?_
      rintro e w2 ⟨b, rfl, hg, hb2⟩
      obtain rfl : b = true := hg.2 HG.out
      clear hg
      go_wp2
      go_ret
      exact ⟨rfl, hb.trans (hb2.mono hb.size)⟩

/-! ### THE ROW's STEP -/
set_option maxRecDepth 100000 in
theorem lifted (os : Os) (started : os.Started) (H : Type) (enc : TypeId × Value → H) :
    ReturnsInHanded {} Try.checked os 5 .any (Rows.fnPlainAcceptsRenderingSpec.pre6 enc Try.prog Try.f5 Rows.fnPlainAcceptsRenderingRow.domain false) (Rows.fnPlainAcceptsRenderingSpec.post enc Try.prog Try.f5 false true false false) := by
  refine returnsInHanded_of_change (C := Try.checked) own started (by kernel_rfl) Try.func5
    (ChangeSpec.witness6 (enc := enc) (C := Try.checked) false ⟨#[], #[.int .i64 0, .int .i64 0], []⟩ 8 (by kernel_rfl) (by kernel_rfl) (by kernel_rfl) (by kernel_rfl)) ?_
  intro W base args ds gs before hval0 hW hcnd _
  have hval : ∀ (j : Nat) t v, Try.f5.params[j]? = some t → args[j]? = some v → Value.okWide Try.prog W .any base t v := hval0
  have hW' := hW
  obtain ⟨p, q, hA0, hV, rfl, hfz, hnd⟩ := hW
  have hA : DataW.TrodAll enc Try.prog W 0 (fun _ => true) true Try.f5.params.toList args.toList ds p := hA0
  rw [Try.params5] at hA hval
  obtain ⟨v0, vs0, d0, ds0, p0, q0, hargs, rfl, rfl, h0, r0⟩ := trodAll_cons hA
  obtain ⟨v1, vs1, d1, ds1, p1, q1, rfl, rfl, rfl, h1, r1⟩ := trodAll_cons r0
  obtain ⟨rfl, rfl, rfl⟩ := trodAll_nil r1
  obtain rfl : args = #[v0, v1] := by cases args; simp_all
  obtain ⟨rfl, rfl⟩ := trodVars_none hV
  obtain ⟨a0, rfl, rfl, rfl, w0⟩ := open_int Try.underlying2 (hval 0 2 v0 rfl rfl) h0
  obtain ⟨a1, rfl, rfl, rfl, w1⟩ := open_int Try.underlying3 (hval 1 3 v1 rfl rfl) h1
  clear hA0 hval0
  simp only [List.append_nil] at hW'
  refine (walk a0 a1 w0 w1 W).mono fun e W' ⟨he, hg⟩ => ?_
  subst he
  exact ⟨_, rfl, _, _, _, [], _, [], hW', trodAll_mk1 (shut_bool Try.underlying4 _), (trodAll_cons_mk (shut_int Try.underlying2 w0) (trodAll_cons_mk (shut_int Try.underlying3 w1) trodAll_mk0)), rfl, hg.frame _, fun h => by cases h⟩

theorem over : Rows.fnPlainAcceptsRenderingRow.holds Try.pinned (OpenSpec.ofChange Rows.fnPlainAcceptsRenderingSpec) :=
  OpenClaim.holds_of_wide 5 Try.f5 rfl rfl rfl rfl rfl rfl rfl ⟨rfl, rfl, rfl, rfl, rfl⟩ rfl rfl rfl rfl rfl (by kernel_rfl) Try.func5 (by kernel_rfl)
    (of_decide_eq_true (by kernel_rfl)) (by unfold Func.isWrapper; first | (rw [if_pos (by decide +kernel)]; kernel_rfl) | (rw [if_neg (by decide +kernel)]; exact ⟨rfl, rfl⟩))
    (fun os started H enc _ => lifted os started H enc)

/-- THE STATEMENT -/
theorem proved : Rows.FnPlainAcceptsRenderingSaid :=
  over
end Go.Proofs.Qxb6602895a.fnPlainAcceptsRendering
