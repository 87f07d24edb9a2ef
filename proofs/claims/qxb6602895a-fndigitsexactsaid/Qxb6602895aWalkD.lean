/-
  DERIVED. The walk of 'digits' (20) and 'ZZdigits' (15).
-/
import Derived.Test.Qxb6602895aProg
import Derived.WalkKit
import Derived.WalkSpells
import Derived.WalkLawsBesides
import Derived.Test.Qxb6602895aPlainA
namespace Go.Proofs.Qxb6602895a
open Go.RowKit
set_option linter.unusedVariables false

theorem ret_ii {a b c d : Int} (h : a = b) (h2 : c = d) : Ending.returned (.tuple #[.int .i64 a, .int .i32 c]) = .returned (.tuple #[.int .i64 b, .int .i32 d]) := by rw [h, h2]

set_option maxHeartbeats 400000 in
theorem digits_any (s : ByteArray) (w : World) (hs : s.size ≤ 2097152) (h0 : 0 < s.size) (hok : ∀ k (h : k < s.size), okByte s[k]) :
    Calls Try.prog 20 #[.string s] w fun e w' => e = .returned (.tuple #[.int .i64 (wrap64 (sgn s[0] (dfold s.data.toList).1)), .int .i32 (-(dfold s.data.toList).2.1)]) ∧ w = w' := by
  go_enter Try.func20, Try.ntmps20
  go_wp2
  go_loop [4, 5, 6, 7] (fun c e p i => ∃ k : Nat, k ≤ s.size ∧ i = .int .i64 k ∧ c = .int .i64 (wrap64 (dfold (s.data.toList.take k)).1) ∧ e = .int .i32 (-(dfold (s.data.toList.take k)).2.1) ∧ p = .bool (dfold (s.data.toList.take k)).2.2)
    (fun _ _ _ i => s.size - (intOf i).toNat)
  case atStart => exact ⟨0, Nat.zero_le _, rfl, by simp [dfold, wrap64], rfl, rfl⟩
  case round =>
    obtain ⟨k, hk, rfl, rfl, rfl, rfl⟩ := hrel
    have hx := dfold_exp (s.data.toList.take k)
    have hl : (s.data.toList.take k).length ≤ k := List.length_take_le _ _
    by_cases hlt : k < s.size
    · have hb := hok k hlt
      have HS : Hid (dfold (s.data.toList.take (k + 1)) = dst (dfold (s.data.toList.take k)) s[k]) := by rw [take_snoc s k hlt]; exact dfold_snoc _ _
      go_wp2
      · have h45 : ((s[k].toNat : Int) == 45) = true := by assumption
        go_round
        case rel => exact ⟨k + 1, by omega, by go_num, by rw [HS.out, dst_minus _ _ h45], by rw [HS.out, dst_minus _ _ h45], by rw [HS.out, dst_minus _ _ h45]⟩
        case measure => simp [intOf]; omega
      · have h45 : ((s[k].toNat : Int) == 45) = false := by assumption
        have h46 : ((s[k].toNat : Int) == 46) = true := by assumption
        go_round
        case rel => exact ⟨k + 1, by omega, by go_num, by rw [HS.out, dst_point _ _ h45 h46], by rw [HS.out, dst_point _ _ h45 h46], by rw [HS.out, dst_point _ _ h45 h46]⟩
        case measure => simp [intOf]; omega
      all_goals
        have h45 : ((s[k].toNat : Int) == 45) = false := by assumption
        have h46 : ((s[k].toNat : Int) == 46) = false := by assumption
        have HD : Hid (dfold (s.data.toList.take (k + 1)) = _) := HS.out.trans (dst_digit (dfold (s.data.toList.take k)) s[k] h45 h46)
        have ho := okByte_digit _ hb h45 h46
        have hp : ∃ b, (dfold (s.data.toList.take k)).2.2 = b := ⟨_, rfl⟩
        go_round
        case rel =>
          refine ⟨k + 1, by omega, by go_num, ?_, ?_, ?_⟩
          · rw [HD.out, ho, wrap64_step]
          · rw [HD.out]; simp [*]; try omega
          · rw [HD.out]
        case measure => simp [intOf]; omega
    · have hke : k = s.size := by omega
      subst hke
      have hall : s.data.toList.take s.size = s.data.toList := List.take_of_length_le (by simp)
      rw [hall]
      go_wp2
      · have h45 : ((s[0].toNat : Int) == 45) = true := by assumption
        go_ret2
        exact ⟨ret_ii (by rw [sgn_minus _ _ h45, wrap64_neg]) rfl, rfl⟩
      · have h45 : ((s[0].toNat : Int) == 45) = false := by assumption
        go_ret2
        exact ⟨ret_ii (by rw [sgn_plus _ _ h45]) rfl, rfl⟩

set_option maxHeartbeats 400000 in
theorem zdigits_any (s : ByteArray) (w : World) (hs : s.size ≤ 2097152) (h0 : 0 < s.size) (hok : ∀ k (h : k < s.size), okByte s[k]) :
    Calls Try.prog 15 #[.string s] w fun e w' => e = .returned (.tuple #[.int .i64 (wrap64 (sgn s[0] (dfold s.data.toList).1)), .int .i32 (-(dfold s.data.toList).2.1)]) ∧ w = w' := by
  go_enter Try.func15, Try.ntmps15
  go_wp2_with (go_at_call 20; refine (digits_any s _ hs h0 hok).mono ?_; rintro e w' ⟨rfl, rfl⟩)
  go_ret2
  exact ⟨rfl, rfl⟩
end Go.Proofs.Qxb6602895a
