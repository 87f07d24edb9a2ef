/-
  DERIVED. The walk of 'ZZMemberSetTag' (6) and of 'FnMemberSetTagSlotRoundTrip' (3).
-/
import Derived.Test.Qxb6603613aProg
import Derived.WalkKit
import Derived.WalkSpells
import Derived.WalkLawsBesides
import Derived.Test.Qxb6603613aPlainT
namespace Go.Proofs.Qxb6603613a
open Go.RowKit
set_option linter.unusedVariables false

set_option maxHeartbeats 400000 in
theorem tag_any (n : Nat) (h : Int) (w : World) (hn1 : 1 ≤ n) (hn2 : n ≤ 31) (hh : 0 ≤ h) (hh2 : h ≤ 18446744073709551615) :
    Calls Try.prog 6 #[.int .u64 n, .int .u64 h] w fun e w' => e = .returned (.int .u32 (h / 4294967296 * 2 ^ n % 4294967296)) ∧ Below w.heap.size w w' := by
  go_enter Try.func6, Try.ntmps6
  go_wp2
  go_ret
  exact ⟨rfl, (Below.refl _ _).alloc (Nat.le_refl _) _⟩

set_option maxHeartbeats 400000 in
theorem law (n h i low : Nat) (w : World) (hn1 : 1 ≤ n) (hn2 : n ≤ 31) (hh2 : h ≤ 18446744073709551615) (hi2 : i ≤ 4294967295) (hl2 : low ≤ 4294967295) :
    Calls Try.prog 3 #[.int .u64 n, .int .u64 h, .int .u32 i, .int .u32 low] w fun e w' => e = .returned (.bool true) ∧ Below w.heap.size w w' := by
  go_enter Try.func3, Try.ntmps3
  go_wp2_with fail
  · go_ret
    exact ⟨rfl, Below.refl _ _⟩
  · have hlt : (i : Int) + 1 < IntKind.u64.wrap (2 ^ n) := by assumption
    have hlt2 : i + 1 < 2 ^ n := by rw [wrap_pow n hn2] at hlt; omega
    have HP := pow_le n hn2
    have e1 : ((i : Int) + 1) % 4294967296 = ((i + 1 : Nat) : Int) := by omega
    have e2 : ((h : Int) / 4294967296) = ((h / 4294967296 : Nat) : Int) := by omega
    have F1 := said_low n (h / 4294967296) (i + 1) hn2 hlt2 (by omega)
    have F2 := said_high n (h / 4294967296) (i + 1) hn2 hlt2 (by omega)
    have F3 := said_xor h low (by omega) (by omega)
    rw [← e1, ← e2] at F1 F2
    have G1 : Hid _ := F1
    have G2 : Hid _ := F2
    have G3 : Hid _ := F3
    clear F1 F2 F3 e1 e2 hlt2 HP
    refine (tag_any n h _ hn1 hn2 (by omega) (by omega)).mono ?_
    rintro e w1 ⟨rfl, hb⟩
    go_wp2_with fail
    · refine (tag_any n _ _ hn1 hn2 G3.out.1 G3.out.2.1).mono ?_
      rintro e w2 ⟨rfl, hb2⟩
      rw [G3.out.2.2]
      go_wp2
      go_ret
      exact ⟨rfl, hb.trans (hb2.mono hb.size)⟩
end Go.Proofs.Qxb6603613a
