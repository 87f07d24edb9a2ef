/-
  DERIVED. The walk of 'wrapValue' (21).
-/
import Derived.Test.Qxb6602895aProg
import Derived.WalkKit
import Derived.WalkSpells
import Derived.WalkLawsBesides
import Derived.Test.Qxb6602895aPlainF
namespace Go.Proofs.Qxb6602895a
open Go.RowKit
set_option linter.unusedVariables false

/-- A number taken modulo 2^64. -/
def wu (n : Int) : Int := IntKind.u64.wrap n
theorem wu_eq (n : Int) : wu n = n % 18446744073709551616 := IntKind.wrap_u64 n
theorem wu_step (v d : Int) : IntKind.u64.wrap (IntKind.u64.wrap (wu v * 10) + d) = wu (v * 10 + d) := by
  rw [wu_eq, wu_eq, IntKind.wrap_u64, IntKind.wrap_u64]; omega
theorem ret_ii2 {a b c d : Int} (h : a = b) (h2 : c = d) : Ending.returned (.tuple #[.int .i64 a, .int .i32 c]) = .returned (.tuple #[.int .i64 b, .int .i32 d]) := by rw [h, h2]
theorem ret_u {k : IntKind} {a b : Int} (h : a = b) : Ending.returned (.int k a) = .returned (.int k b) := by rw [h]

theorem dst_digs (st : Int × Int × Bool) (b : UInt8) (h : dig b) : (dst st b).1 = st.1 * 10 + ((b.toNat : Int) - 48) := by
  rw [dst_of_dig st b h]

set_option maxHeartbeats 400000 in
theorem wrapValue_any (s : ByteArray) (w : World) (hs : s.size ≤ 2097152) (hd : ∀ x ∈ s.data.toList, dig x) :
    Calls Try.prog 21 #[.string s] w fun e w' => e = .returned (.int .u64 (wu (dfold s.data.toList).1)) ∧ w = w' := by
  go_enter Try.func21, Try.ntmps21
  go_wp2
  go_loop [3, 4] (fun v i => ∃ k : Nat, k ≤ s.size ∧ i = .int .i64 k ∧ v = .int .u64 (wu (dfold (s.data.toList.take k)).1)) (fun _ i => s.size - (intOf i).toNat)
  case atStart => exact ⟨0, Nat.zero_le _, rfl, rfl⟩
  case round =>
    obtain ⟨k, hk, rfl, rfl⟩ := hrel
    by_cases hlt : k < s.size
    · have hdk := hd _ (List.mem_of_getElem? (at_list s k hlt))
      have HS : Hid ((dfold (s.data.toList.take (k + 1))).1 = (dfold (s.data.toList.take k)).1 * 10 + ((s[k].toNat : Int) - 48)) := by
        unfold Hid; rw [take_snoc s k hlt, dfold_snoc]; exact dst_digs _ _ hdk
      have hr : 48 ≤ (s[k].toNat : Int) ∧ (s[k].toNat : Int) ≤ 57 := by unfold dig at hdk; omega
      obtain ⟨hr1, hr2⟩ := hr
      clear hdk
      go_wp2
      go_round
      case rel => exact ⟨k + 1, by omega, by go_num, by rw [HS.out, ← wu_step]⟩
      case measure => simp [intOf]; omega
    · have hke : k = s.size := by omega
      subst hke
      go_wp2
      go_ret
      exact ⟨ret_u (by rw [List.take_of_length_le (by simp)]), rfl⟩
end Go.Proofs.Qxb6602895a
