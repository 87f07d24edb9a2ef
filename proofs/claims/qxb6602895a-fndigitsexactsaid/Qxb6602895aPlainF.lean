/-
  DERIVED. Plain mathematics: a plain decimal's bytes; one more fraction zero. No Go in sight.
-/
import Derived.Test.Qxb6602895aPlainC
namespace Go.Proofs.Qxb6602895a
open Go.RowKit
set_option linter.unusedVariables false

theorem good_pos {l : List UInt8} (h : Good l) : 0 < l.length := by
  obtain ⟨k, h1, h2, _⟩ := h; omega

theorem good_ok {l : List UInt8} (h : Good l) : ∀ x ∈ l, okByte x := by
  intro x hx
  obtain ⟨j, hj, rfl⟩ := List.getElem_of_mem hx
  have he : l[j]? = some l[j] := List.getElem?_eq_getElem hj
  have hD : D l j → okByte l[j] := by
    rintro ⟨b, hb, hd⟩
    rw [he] at hb; injection hb with hb; rw [hb]; exact Or.inr (Or.inr hd)
  unfold Good at h
  obtain ⟨k, h1, h2, h3, h4⟩ := h
  rcases Nat.lt_or_ge j (if l[0]? = some 45 then 1 else 0) with h5 | h5
  · by_cases h6 : l[0]? = some 45
    · rw [if_pos h6] at h5
      have h0 : j = 0 := by omega
      have : l[j]? = some 45 := by rw [h0]; exact h6
      rw [he] at this; injection this with this; rw [this]; left; rfl
    · rw [if_neg h6] at h5; omega
  · rcases Nat.lt_or_ge j k with h6 | h6
    · exact hD (h3 j h5 h6)
    · rcases h4 with h4 | ⟨h4, h7, h8⟩
      · omega
      · rcases Nat.eq_or_lt_of_le h6 with h9 | h9
        · have : l[j]? = some 46 := by rw [← h9]; exact h4
          rw [he] at this; injection this with this; rw [this]; right; left; rfl
        · exact hD (h8 j h9 hj)

theorem dst_pt (st : Int × Int × Bool) (b : UInt8) (h : ((b.toNat : Int) == 46) = true) : (dst st b).2.2 = true := by
  have h' : b.toNat = 46 := by have := eq_of_beq h; omega
  unfold dst; rw [if_neg (by omega), if_pos h']
theorem dst_nopt (st : Int × Int × Bool) (b : UInt8) (h : ((b.toNat : Int) == 46) = false) : (dst st b).2.2 = st.2.2 := by
  have h' := ne_of_beq_false h
  unfold dst
  split
  · rfl
  · rw [if_neg (by omega)]

theorem fold_0 (l : List UInt8) (h : (dfold l).2.2 = true) : dfold (l ++ [48]) = ((dfold l).1 * 10, (dfold l).2.1 + 1, true) := by
  rw [dfold_snoc]
  unfold dst
  rw [if_neg (by decide), if_neg (by decide), h]
  simp
theorem fold_00 (l : List UInt8) : dfold (l ++ [46, 48]) = ((dfold l).1 * 10, (dfold l).2.1 + 1, true) := by
  have e : l ++ [46, 48] = (l ++ [46]) ++ [48] := by simp
  have e2 : dfold (l ++ [46]) = ((dfold l).1, (dfold l).2.1, true) := by
    rw [dfold_snoc]
    unfold dst
    rw [if_neg (by decide), if_pos (by decide)]
  rw [e, fold_0 _ (by rw [e2]), e2]

theorem wrap64_ten (v : Int) : wrap64 (wrap64 v * 10) = wrap64 (v * 10) := by unfold wrap64; omega
theorem sgn_ten (b : UInt8) (v : Int) : sgn b v * 10 = sgn b (v * 10) := by
  unfold sgn; split <;> omega
end Go.Proofs.Qxb6602895a
