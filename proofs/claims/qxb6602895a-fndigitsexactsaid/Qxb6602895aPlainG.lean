/-
  DERIVED. Plain mathematics for 'modelDigits': a plain decimal split at its point. No Go in sight.
-/
import Derived.Test.Qxb6602895aPlainF
namespace Go.Proofs.Qxb6602895a
open Go.RowKit
set_option linter.unusedVariables false

theorem goodAt_cases {l : List UInt8} (h : GoodAt l 0) (j : Nat) (hj : j < l.length) : D l j ∨ l[j]? = some 46 := by
  obtain ⟨k, h1, h2, h3, h4⟩ := h
  rcases Nat.lt_or_ge j k with h6 | h6
  · exact Or.inl (h3 j (Nat.zero_le _) h6)
  · rcases h4 with h4 | ⟨h4, h7, h8⟩
    · omega
    · rcases Nat.eq_or_lt_of_le h6 with h9 | h9
      · right; rw [← h9]; exact h4
      · exact Or.inl (h8 j h9 hj)

theorem fold_fw (A : List UInt8) (h : ∀ x ∈ A, dig x) (st : Int × Int × Bool) :
    A.foldl dst st = (st.1 * 10 ^ A.length + (dfold A).1, if st.2.2 then st.2.1 + A.length else st.2.1, st.2.2) := by
  have h1 := fold_digs A.reverse (fun x hx => h x (List.mem_reverse.1 hx)) st
  have h2 := fold_digs A.reverse (fun x hx => h x (List.mem_reverse.1 hx)) (0, 0, false)
  rw [List.reverse_reverse, List.length_reverse] at h1 h2
  have h3 : (dfold A).1 = (valLE A.reverse : Int) := by unfold dfold; rw [h2]; simp
  rw [h1, h3]

/-- The text's value is that of its two parts; F's digits are its decimals. -/
structure Split (l I F : List UInt8) : Prop where
  val : (dfold l).1 = (dfold I).1 * 10 ^ F.length + (dfold F).1
  dec : (dfold l).2.1 = (F.length : Int)
  di : ∀ x ∈ I, dig x
  df : ∀ x ∈ F, dig x

theorem split_cons {l I F : List UInt8} (h : Split l I F) : Split (45 :: l) I F := by
  have e : dfold (45 :: l) = dfold l := by unfold dfold; rw [List.foldl_cons, dst_45]
  exact ⟨by rw [e]; exact h.val, by rw [e]; exact h.dec, h.di, h.df⟩

theorem split_whole (I : List UInt8) (h : ∀ x ∈ I, dig x) : Split I I [] := by
  refine ⟨by simp [dfold], ?_, h, by simp⟩
  unfold dfold; rw [fold_fw I h]; simp

theorem split_point (I F : List UInt8) (hI : ∀ x ∈ I, dig x) (hF : ∀ x ∈ F, dig x) : Split (I ++ 46 :: F) I F := by
  have e : dfold (I ++ 46 :: F) = ((dfold I).1 * 10 ^ F.length + (dfold F).1, (F.length : Int), true) := by
    have h1 := fold_fw I hI (0, 0, false)
    have h2 : dfold I = ((dfold I).1, 0, false) := by
      refine Prod.ext rfl ?_
      show (I.foldl dst (0, 0, false)).2 = _
      rw [h1]; simp
    show (I ++ 46 :: F).foldl dst (0, 0, false) = _
    rw [List.foldl_append, List.foldl_cons]
    show F.foldl dst (dst (dfold I) 46) = _
    rw [dst_46, fold_fw F hF]
    refine Prod.ext rfl (Prod.ext ?_ rfl)
    rw [h2]; simp
  exact ⟨by rw [e], by rw [e], hI, hF⟩

theorem digs_all {l : List UInt8} (k : Nat) (hk : k ≤ l.length) (h : ∀ j, j < k → D l j) : ∀ x ∈ l.take k, dig x := by
  intro x hx
  obtain ⟨j, hj, rfl⟩ := List.getElem_of_mem hx
  have hjk : j < k := by rw [List.length_take] at hj; omega
  obtain ⟨b, hb, hd⟩ := h j hjk
  rw [List.getElem_take]
  rw [List.getElem?_eq_getElem (by omega)] at hb
  injection hb with hb
  rw [hb]; exact hd

theorem digs_after {l : List UInt8} {k : Nat} (hg : GoodAt l 0) (h46 : l[k]? = some 46) : ∀ x ∈ l.drop (k + 1), dig x := by
  intro x hx
  obtain ⟨j, hj, rfl⟩ := List.getElem_of_mem hx
  rw [List.length_drop] at hj
  have hjl : k + 1 + j < l.length := by omega
  rw [List.getElem_drop]
  rcases goodAt_cases hg (k + 1 + j) hjl with ⟨b, hb, hd⟩ | h
  · rw [List.getElem?_eq_getElem hjl] at hb
    injection hb with hb
    rw [hb]; exact hd
  · have := (good_at_point h46 hg).2.2 _ h
    omega

theorem cut_at {l : List UInt8} {k : Nat} (h46 : l[k]? = some 46) : l = l.take k ++ 46 :: l.drop (k + 1) := by
  have hk : k < l.length := by
    rcases Nat.lt_or_ge k l.length with h1 | h1
    · exact h1
    · rw [List.getElem?_eq_none h1] at h46; cases h46
  have e : l[k] = 46 := by rw [List.getElem?_eq_getElem hk] at h46; injection h46
  have := List.drop_eq_getElem_cons hk
  rw [e] at this
  rw [← this, List.take_append_drop]
end Go.Proofs.Qxb6602895a
