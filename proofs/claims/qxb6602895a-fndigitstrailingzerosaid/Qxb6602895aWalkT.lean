/-
  DERIVED. The walk of 'FnDigitsTrailingZero' (8).
-/
import Derived.Test.Qxb6602895aWalkD
import Derived.Test.Qxb6602895aWalkM
import Derived.Test.Qxb6602895aPlainF
namespace Go.Proofs.Qxb6602895a
open Go.RowKit
set_option linter.unusedVariables false

theorem append_list (s r : ByteArray) : (s ++ r).data.toList = s.data.toList ++ r.data.toList := by
  rw [ByteArray.data_append, Array.toList_append]

theorem digits_byte (s : ByteArray) (w : World) (hs : s.size ≤ 2097152) (b : UInt8) (hb : s.data.toList[0]? = some b) (hok : ∀ x ∈ s.data.toList, okByte x) :
    Calls Try.prog 15 #[.string s] w fun e w' => e = .returned (.tuple #[.int .i64 (wrap64 (sgn b (dfold s.data.toList).1)), .int .i32 (-(dfold s.data.toList).2.1)]) ∧ w = w' := by
  have h0 : 0 < s.size := by have := lt_of_at hb; rw [len_list] at this; exact this
  have e : s[0] = b := by have := at_list s 0 h0; rw [hb] at this; injection this with this; exact this.symm
  refine (zdigits_any s w hs h0 (fun k hk => hok _ (List.mem_of_getElem? (at_list s k hk)))).mono ?_
  rintro e w' ⟨rfl, rfl⟩
  refine ⟨?_, rfl⟩
  rw [← e]

theorem digits_more (s r : ByteArray) (w : World) (hs : s.size ≤ 1048576) (hr : r.size ≤ 2) (b : UInt8) (hb : s.data.toList[0]? = some b) (hok : ∀ x ∈ s.data.toList, okByte x) (hrk : ∀ x ∈ r.data.toList, okByte x)
    (hf : ∃ p, dfold (s.data.toList ++ r.data.toList) = ((dfold s.data.toList).1 * 10, (dfold s.data.toList).2.1 + 1, p)) :
    Calls Try.prog 15 #[.string (s ++ r)] w fun e w' => e = .returned (.tuple #[.int .i64 (wrap64 (wrap64 (sgn b (dfold s.data.toList).1) * 10)), .int .i32 (-(dfold s.data.toList).2.1 - 1)]) ∧ w = w' := by
  obtain ⟨p, hf⟩ := hf
  refine (digits_byte (s ++ r) w (by rw [ByteArray.size_append]; omega) b ?_ ?_).mono ?_
  · rw [append_list, List.getElem?_append_left (lt_of_at hb)]; exact hb
  · rw [append_list]; intro x hx
    rcases List.mem_append.1 hx with h | h
    · exact hok x h
    · exact hrk x h
  · rintro e w' ⟨rfl, rfl⟩
    refine ⟨ret_ii ?_ ?_, rfl⟩
    · rw [append_list, hf, wrap64_ten, sgn_ten]
    · rw [append_list, hf]; show -((dfold s.data.toList).2.1 + 1) = _; omega

set_option maxHeartbeats 800000 in
theorem trailing_walk (a0 : ByteArray) (w0 : a0.size ≤ maxLen) (w : World) :
    Calls Try.prog 8 #[.string a0] w fun e w' => e = .returned (.bool true) ∧ Below w.heap.size w w' := by
  unfold maxLen at w0
  by_cases hs : 1048576 < a0.size
  · go_enter Try.func8, Try.ntmps8
    go_wp2
    go_ret
    exact ⟨rfl, Below.refl _ _⟩
  · go_enter Try.func8, Try.ntmps8
    go_wp2_with (go_at_call 17; go_in)
    refine (model_any a0 _ (by omega)).mono ?_
    rintro e w1 ⟨rfl, b, rfl, hg⟩
    cases b with
    | false =>
      clear hg
      go_wp2
      go_ret
      exact ⟨rfl, Below.refl _ _⟩
    | true =>
      have HG : Hid (Good a0.data.toList) := hg.1 rfl
      clear hg
      have h0 := good_pos HG.out
      rw [len_list] at h0
      go_wp2
      go_loop [3, 4] (fun p i => ∃ k : Nat, k ≤ a0.size ∧ i = .int .i64 k ∧ p = .bool (dfold (a0.data.toList.take k)).2.2) (fun _ i => a0.size - (intOf i).toNat)
      case atStart => exact ⟨0, Nat.zero_le _, rfl, rfl⟩
      case round =>
        obtain ⟨k, hk, rfl, rfl⟩ := hrel
        by_cases hlt : k < a0.size
        · have HS : Hid (dfold (a0.data.toList.take (k + 1)) = dst (dfold (a0.data.toList.take k)) a0[k]) := by rw [take_snoc a0 k hlt]; exact dfold_snoc _ _
          go_wp2
          · have h46 : ((a0[k].toNat : Int) == 46) = true := by assumption
            go_round
            case rel => exact ⟨k + 1, by omega, by go_num, by rw [HS.out, dst_pt _ _ h46]⟩
            case measure => simp [intOf]; omega
          · have h46 : ((a0[k].toNat : Int) == 46) = false := by assumption
            go_round
            case rel => exact ⟨k + 1, by omega, by go_num, by rw [HS.out, dst_nopt _ _ h46]⟩
            case measure => simp [intOf]; omega
        · have hke : k = a0.size := by omega
          subst hke
          have hall : a0.data.toList.take a0.size = a0.data.toList := List.take_of_length_le (by simp)
          rw [hall]
          clear hall
          go_wp2_with fail
          have hx := dfold_exp a0.data.toList
          rw [len_list] at hx
          have hok := good_ok HG.out
          have hb0 := at_list a0 0 h0
          have HOK : Hid (∀ x ∈ a0.data.toList, okByte x) := hok
          have HB0 : Hid (a0.data.toList[0]? = some a0[0]) := hb0
          clear hok hb0
          · have hp : (dfold a0.data.toList).2.2 = true := by assumption
            refine (digits_byte a0 _ (by omega) _ HB0.out HOK.out).mono ?_
            rintro e w2 ⟨rfl, rfl⟩
            go_wp2_with fail
            refine (digits_more a0 _ _ (by omega) (by decide) _ HB0.out HOK.out (by unfold okByte; simp) ⟨true, fold_0 _ hp⟩).mono ?_
            rintro e w2 ⟨rfl, rfl⟩
            go_wp2
            go_ret
            exact ⟨rfl, Below.refl _ _⟩
          · have hx := dfold_exp a0.data.toList
            rw [len_list] at hx
            refine (digits_byte a0 _ (by omega) _ (at_list a0 0 h0) (good_ok HG.out)).mono ?_
            rintro e w2 ⟨rfl, rfl⟩
            go_wp2_with fail
            refine (digits_more a0 _ _ (by omega) (by decide) _ (at_list a0 0 h0) (good_ok HG.out) (by unfold okByte; simp) ⟨true, fold_00 _⟩).mono ?_
            rintro e w2 ⟨rfl, rfl⟩
            go_wp2
            go_ret
            exact ⟨rfl, Below.refl _ _⟩
end Go.Proofs.Qxb6602895a
