/-
  DERIVED. Plain mathematics for the tag's slot: shifts, masks. No Go in sight.
-/
import Derived.Laws.BitsAllLaws
import Derived.Laws.Bits64
namespace Go.Proofs.Qxb6603613a
set_option linter.unusedVariables false

theorem pow_parts (n : Nat) (hn : n ≤ 31) : 2 ^ n * 2 ^ (32 - n) = 4294967296 := by
  rw [← Nat.pow_add, show n + (32 - n) = 32 by omega]
theorem pow_le (n : Nat) (hn : n ≤ 31) : 2 ^ n ≤ 2147483648 := by
  have := Nat.pow_le_pow_right (n := 2) (by omega) hn
  simpa using this

theorem tag_low (H n : Nat) (hn : n ≤ 31) : H * 2 ^ n % 4294967296 % 2 ^ n = 0 := by
  rw [← pow_parts n hn, Nat.mod_mul_right_mod, Nat.mul_mod_left]
theorem tag_high (H n : Nat) (hn : n ≤ 31) : H * 2 ^ n % 4294967296 / 2 ^ n = H % 2 ^ (32 - n) := by
  rw [← pow_parts n hn, Nat.mod_mul_right_div_self, Nat.mul_div_cancel _ (Nat.two_pow_pos n)]

theorem slot_join (H n y : Nat) (hn : n ≤ 31) (hy : y < 2 ^ n) : H * 2 ^ n % 4294967296 ||| y = H * 2 ^ n % 4294967296 + y :=
  nat_join n _ _ (tag_low H n hn) hy
theorem slot_low (H n y : Nat) (hn : n ≤ 31) (hy : y < 2 ^ n) : (H * 2 ^ n % 4294967296 ||| y) &&& (2 ^ n - 1) = y := by
  rw [slot_join H n y hn hy, Nat.and_two_pow_sub_one_eq_mod, Nat.add_mod, tag_low H n hn, Nat.zero_add, Nat.mod_mod, Nat.mod_eq_of_lt hy]
theorem ones_div (n : Nat) (hn : n ≤ 31) : 4294967295 / 2 ^ n = 2 ^ (32 - n) - 1 := by
  have hp := pow_parts n hn
  have h1 : 0 < 2 ^ n := Nat.two_pow_pos n
  have h2 : 0 < 2 ^ (32 - n) := Nat.two_pow_pos _
  have e : 4294967295 = 2 ^ n * (2 ^ (32 - n) - 1) + (2 ^ n - 1) := by
    rw [Nat.mul_sub, Nat.mul_one, hp]
    have := pow_le n hn
    omega
  rw [e, Nat.mul_add_div h1, Nat.div_eq_of_lt (by omega), Nat.add_zero]
theorem slot_high (H n y : Nat) (hn : n ≤ 31) (hy : y < 2 ^ n) : (H * 2 ^ n % 4294967296 ||| y) / 2 ^ n = H &&& (4294967295 / 2 ^ n) := by
  rw [slot_join H n y hn hy, ones_div n hn, Nat.and_two_pow_sub_one_eq_mod, ← tag_high H n hn]
  have h1 : 0 < 2 ^ n := Nat.two_pow_pos n
  have hd := Nat.div_add_mod (H * 2 ^ n % 4294967296) (2 ^ n)
  rw [tag_low H n hn, Nat.add_zero] at hd
  rw [← hd, Nat.mul_add_div h1, Nat.div_eq_of_lt hy, Nat.add_zero, Nat.mul_div_cancel_left _ h1]

theorem xor_high (h l : Nat) (hl : l < 4294967296) : (h ^^^ l) / 4294967296 = h / 4294967296 := by
  have e : ∀ x : Nat, x / 4294967296 = x >>> 32 := fun x => by rw [Nat.shiftRight_eq_div_pow]
  rw [e, e, Nat.shiftRight_xor_distrib, ← e l, Nat.div_eq_of_lt hl, Nat.xor_zero]

/-! ### The same in the walk's own spelling -/
theorem wrap_pow (n : Nat) (hn : n ≤ 31) : IntKind.u64.wrap (2 ^ n) = ((2 ^ n : Nat) : Int) := by
  have := pow_le n hn
  rw [IntKind.wrap_u64, show ((2 : Int) ^ n) = ((2 ^ n : Nat) : Int) by simp]
  have h0 : 0 < 2 ^ n := Nat.two_pow_pos n
  omega

theorem said_low (n H y : Nat) (hn : n ≤ 31) (hy : y < 2 ^ n) (hH : H < 4294967296) :
    bits .and .u32 (bits .or .u32 ((H : Int) * 2 ^ n % 4294967296) (y : Int)) ((2 ^ n - 1) % 4294967296) = (y : Int) := by
  have hp := pow_le n hn
  have e1 : ((H : Int) * 2 ^ n % 4294967296) = ((H * 2 ^ n % 4294967296 : Nat) : Int) := by simp
  have e2 : (((2 : Int) ^ n - 1) % 4294967296) = ((2 ^ n - 1 : Nat) : Int) := by
    rw [show ((2 : Int) ^ n) = ((2 ^ n : Nat) : Int) by simp]
    have : 0 < 2 ^ n := Nat.two_pow_pos n
    omega
  have hT : H * 2 ^ n % 4294967296 < 4294967296 := Nat.mod_lt _ (by decide)
  rw [e1, e2, u32_or_nat _ _ hT (by omega), u32_and_nat _ _ ?_ (by omega), slot_low H n y hn hy]
  have : H * 2 ^ n % 4294967296 < 2 ^ 32 := hT
  exact Nat.or_lt_two_pow this (by show y < 4294967296; omega)

theorem said_high (n H y : Nat) (hn : n ≤ 31) (hy : y < 2 ^ n) (hH : H < 4294967296) :
    bits .or .u32 ((H : Int) * 2 ^ n % 4294967296) (y : Int) / 2 ^ n = bits .and .u32 (H : Int) (4294967295 / 2 ^ n) := by
  have hp := pow_le n hn
  have e1 : ((H : Int) * 2 ^ n % 4294967296) = ((H * 2 ^ n % 4294967296 : Nat) : Int) := by simp
  have e2 : ((4294967295 : Int) / 2 ^ n) = ((4294967295 / 2 ^ n : Nat) : Int) := by simp
  have hT : H * 2 ^ n % 4294967296 < 4294967296 := Nat.mod_lt _ (by decide)
  have hd : 4294967295 / 2 ^ n ≤ 4294967295 := Nat.div_le_self _ _
  rw [e1, e2, u32_or_nat _ _ hT (by omega), u32_and_nat _ _ hH (by omega), ← slot_high H n y hn hy]
  simp

theorem said_xor (h l : Nat) (hh : h < 18446744073709551616) (hl : l < 4294967296) :
    0 ≤ bits .xor .u64 (h : Int) (l : Int) ∧ bits .xor .u64 (h : Int) (l : Int) ≤ 18446744073709551615 ∧ bits .xor .u64 (h : Int) (l : Int) / 4294967296 = (h : Int) / 4294967296 := by
  rw [bits_xor_u64_nat h l hh (by omega)]
  have : h ^^^ l < 2 ^ 64 := Nat.xor_lt_two_pow (by show h < 18446744073709551616; omega) (by show l < 18446744073709551616; omega)
  have h3 := xor_high h l hl
  omega
end Go.Proofs.Qxb6603613a
