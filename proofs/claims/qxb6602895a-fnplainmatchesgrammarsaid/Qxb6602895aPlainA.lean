/-
  DERIVED. Plain mathematics for 'digits': no Go in sight.
-/
import Derived.RowKit
namespace Go.Proofs.Qxb6602895a
open Go.RowKit
set_option linter.unusedVariables false

/-- One byte of 'digits': (the value so far, decimals so far, a point was seen). -/
def dst (st : Int × Int × Bool) (b : UInt8) : Int × Int × Bool :=
  if b.toNat = 45 then st else if b.toNat = 46 then (st.1, st.2.1, true)
  else (st.1 * 10 + ((b.toNat : Int) - 48), if st.2.2 then st.2.1 + 1 else st.2.1, st.2.2)
def dfold (l : List UInt8) : Int × Int × Bool := l.foldl dst (0, 0, false)
def okByte (b : UInt8) : Prop := b.toNat = 45 ∨ b.toNat = 46 ∨ (48 ≤ b.toNat ∧ b.toNat ≤ 57)

theorem dfold_snoc (l : List UInt8) (b : UInt8) : dfold (l ++ [b]) = dst (dfold l) b := by
  simp [dfold, List.foldl_append]

theorem take_snoc (s : ByteArray) (k : Nat) (h : k < s.size) : s.data.toList.take (k + 1) = s.data.toList.take k ++ [s[k]] := by
  rw [List.take_succ_eq_append_getElem (by simpa using h)]; rfl

theorem dst_minus (st : Int × Int × Bool) (b : UInt8) (h : ((b.toNat : Int) == 45) = true) : dst st b = st := by
  have h' : b.toNat = 45 := by have := eq_of_beq h; omega
  unfold dst; rw [if_pos h']
theorem dst_point (st : Int × Int × Bool) (b : UInt8) (h : ((b.toNat : Int) == 45) = false) (h2 : ((b.toNat : Int) == 46) = true) : dst st b = (st.1, st.2.1, true) := by
  have h' : b.toNat = 46 := by have := eq_of_beq h2; omega
  unfold dst; rw [if_neg (by omega), if_pos h']
theorem dst_digit (st : Int × Int × Bool) (b : UInt8) (h : ((b.toNat : Int) == 45) = false) (h2 : ((b.toNat : Int) == 46) = false) :
    dst st b = (st.1 * 10 + ((b.toNat : Int) - 48), if st.2.2 then st.2.1 + 1 else st.2.1, st.2.2) := by
  have a := ne_of_beq_false h
  have b := ne_of_beq_false h2
  unfold dst; rw [if_neg (by omega), if_neg (by omega)]
def sgn (b : UInt8) (v : Int) : Int := if b.toNat = 45 then -v else v
theorem sgn_minus (b : UInt8) (v : Int) (h : ((b.toNat : Int) == 45) = true) : sgn b v = -v := by
  have h' : b.toNat = 45 := by have := eq_of_beq h; omega
  unfold sgn; rw [if_pos h']
theorem sgn_plus (b : UInt8) (v : Int) (h : ((b.toNat : Int) == 45) = false) : sgn b v = v := by
  have a := ne_of_beq_false h
  unfold sgn; rw [if_neg (by omega)]
theorem okByte_digit (b : UInt8) (hb : okByte b) (h : ((b.toNat : Int) == 45) = false) (h2 : ((b.toNat : Int) == 46) = false) : ((b.toNat : Int) - 48) % 256 = (b.toNat : Int) - 48 := by
  have a := ne_of_beq_false h
  have b := ne_of_beq_false h2
  unfold okByte at hb
  omega

theorem dst_exp (st : Int × Int × Bool) (b : UInt8) (h : 0 ≤ st.2.1) : 0 ≤ (dst st b).2.1 ∧ (dst st b).2.1 ≤ st.2.1 + 1 := by
  unfold dst
  split
  · exact ⟨h, by omega⟩
  · split
    · exact ⟨h, by show st.2.1 ≤ _; omega⟩
    · show 0 ≤ (if st.2.2 = true then st.2.1 + 1 else st.2.1) ∧ (if st.2.2 = true then st.2.1 + 1 else st.2.1) ≤ st.2.1 + 1
      split <;> omega

theorem dfold_exp_from (l : List UInt8) : ∀ st : Int × Int × Bool, 0 ≤ st.2.1 → 0 ≤ (l.foldl dst st).2.1 ∧ (l.foldl dst st).2.1 ≤ st.2.1 + l.length := by
  induction l with
  | nil => intro st h; simp; omega
  | cons b l ih =>
    intro st h
    have h1 := dst_exp st b h
    have h2 := ih (dst st b) h1.1
    simp only [List.foldl_cons, List.length_cons]
    omega

theorem dfold_exp (l : List UInt8) : 0 ≤ (dfold l).2.1 ∧ (dfold l).2.1 ≤ l.length := by
  have h := dfold_exp_from l (0, 0, false) (by simp)
  simpa [dfold] using h

theorem wrap64_step (v d : Int) : wrap64 (wrap64 (wrap64 v * 10) + d) = wrap64 (v * 10 + d) := by
  unfold wrap64; omega
theorem wrap64_neg (v : Int) : wrap64 (-(wrap64 v)) = wrap64 (-v) := by
  unfold wrap64; omega
theorem wrap64_id (v : Int) (h1 : -9223372036854775808 ≤ v) (h2 : v ≤ 9223372036854775807) : wrap64 v = v := by
  unfold wrap64; omega
end Go.Proofs.Qxb6602895a
