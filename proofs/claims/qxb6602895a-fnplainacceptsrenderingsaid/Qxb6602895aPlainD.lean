/-
  DERIVED. Plain mathematics: what 'render' writes is plain. No Go in sight.
-/
import Derived.Test.Qxb6602895aPlainC
namespace Go.Proofs.Qxb6602895a
open Go.RowKit
set_option linter.unusedVariables false

theorem D_mid (sg A R : List UInt8) (hA : ∀ x ∈ A, dig x) (j : Nat) (h1 : sg.length ≤ j) (h2 : j < sg.length + A.length) : D (sg ++ (A ++ R)) j := by
  have hlt : j - sg.length < A.length := by omega
  refine ⟨A[j - sg.length], ?_, hA _ (List.getElem_mem hlt)⟩
  rw [List.getElem?_append_right h1, List.getElem?_append_left hlt, List.getElem?_eq_getElem hlt]

theorem good_whole (sg A : List UInt8) (hA : ∀ x ∈ A, dig x) (h0 : A ≠ []) : GoodAt (sg ++ A) sg.length := by
  have hl : 0 < A.length := List.length_pos_iff.2 h0
  refine ⟨sg.length + A.length, by omega, by simp, fun j a b => ?_, Or.inl (by simp)⟩
  have := D_mid sg A [] hA j a b
  simpa using this

theorem good_split (sg A F : List UInt8) (hA : ∀ x ∈ A, dig x) (h0 : A ≠ []) (hF : ∀ x ∈ F, dig x) (h1 : F ≠ []) : GoodAt (sg ++ (A ++ 46 :: F)) sg.length := by
  have hl : 0 < A.length := List.length_pos_iff.2 h0
  have hl2 : 0 < F.length := List.length_pos_iff.2 h1
  refine ⟨sg.length + A.length, by omega, by simp, fun j a b => D_mid sg A (46 :: F) hA j a b, Or.inr ⟨?_, by simp; omega, fun j a b => ?_⟩⟩
  · rw [List.getElem?_append_right (by omega), List.getElem?_append_right (by omega)]
    simp
  · have e : sg ++ (A ++ 46 :: F) = (sg ++ A ++ [46]) ++ (F ++ []) := by simp
    simp only [List.length_append, List.length_cons] at b
    rw [e]
    refine D_mid (sg ++ A ++ [46]) F [] hF j ?_ ?_
    · simp; omega
    · simp; omega

theorem rend_good {neg : Bool} {U K : Nat} {l L : List UInt8} (h : Rend neg U K l L) : Good l := by
  have hhead := rend_head h
  have hlen := rend_len h
  obtain ⟨hd, hv, hK, hs, rfl⟩ := h
  unfold Good
  have hi : (if (outB (if neg then [45] else []) L K 0)[0]? = some 45 then 1 else 0) = (if neg then [45] else [] : List UInt8).length := by
    have hg : (outB (if neg then [45] else []) L K 0)[0]? = some ((outB (if neg then [45] else []) L K 0)[0]'hlen.1) := List.getElem?_eq_getElem hlen.1
    have := hhead _ hg
    rw [hg]
    cases neg
    · rw [if_neg]; · rfl
      intro e; injection e with e; rw [e] at this; simp at this
    · rw [if_pos]; · rfl
      have h45 := this.2 rfl
      have h46 : (outB (if true then [45] else []) L K 0)[0]'hlen.1 = 45 := UInt8.toNat_inj.1 h45
      exact congrArg some h46
  rw [hi]
  clear hi hhead hlen
  obtain ⟨sg, hsg⟩ : ∃ sg : List UInt8, sg = if neg then [45] else [] := ⟨_, rfl⟩
  rw [← hsg]
  unfold outB
  by_cases h0 : 0 < K
  · rw [if_pos ⟨h0, Nat.zero_le _⟩]
    refine good_split _ _ _ ?_ ?_ ?_ ?_
    · intro x hx; exact hd x (List.mem_of_mem_drop (List.mem_reverse.1 hx))
    · intro e; have := congrArg List.length e; simp at this; omega
    · intro x hx; exact hd x (List.mem_of_mem_take (List.mem_of_mem_drop (List.mem_reverse.1 hx)))
    · intro e; have := congrArg List.length e; simp at this; rcases this with h | h
      · omega
      · subst h; simp at hK
  · rw [if_neg (by omega)]
    refine good_whole _ _ ?_ ?_
    · intro x hx; exact hd x (List.mem_of_mem_drop (List.mem_reverse.1 hx))
    · intro e; have := congrArg List.length e; simp at this; subst this; simp at hK
end Go.Proofs.Qxb6602895a
