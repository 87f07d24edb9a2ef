/-
  DERIVED. Plain mathematics for 'modelPlain': the counting model. No Go in sight.
-/
import Derived.Test.Qxb6602895aPlainC
namespace Go.Proofs.Qxb6602895a
open Go.RowKit
set_option linter.unusedVariables false

/-- What the counting loop knows behind j bytes: d points so far, the last one at p. -/
structure MInv (l : List UInt8) (j d : Nat) (p : Int) : Prop where
  le : j ≤ l.length
  few : d ≤ j
  lo : -1 ≤ p
  hi : p < j
  cases : (d = 0 ∧ ∀ i, i < j → D l i) ∨ (d = 1 ∧ ∃ q : Nat, q < j ∧ p = q ∧ l[q]? = some 46 ∧ ∀ i, i < j → i ≠ q → D l i) ∨
    (2 ≤ d ∧ ∃ q r : Nat, q ≠ r ∧ l[q]? = some 46 ∧ l[r]? = some 46)

theorem minv_start (l : List UInt8) : MInv l 0 0 (-1) := ⟨Nat.zero_le _, Nat.le_refl _, by omega, by omega, Or.inl ⟨rfl, fun i h => by omega⟩⟩

theorem lt_of_at {l : List UInt8} {j : Nat} {b : UInt8} (h : l[j]? = some b) : j < l.length := by
  rcases Nat.lt_or_ge j l.length with h1 | h1
  · exact h1
  · rw [List.getElem?_eq_none h1] at h; cases h

theorem minv_dig {l : List UInt8} {j d : Nat} {p : Int} (h : MInv l j d p) {b : UInt8} (hb : l[j]? = some b) (hd : dig b) : MInv l (j + 1) d p := by
  have hj := lt_of_at hb
  obtain ⟨h1, h2, h3, h4, h5⟩ := h
  refine ⟨by omega, by omega, h3, by omega, ?_⟩
  rcases h5 with ⟨e, f⟩ | ⟨e, q, g1, g2, g3, g4⟩ | h5
  · refine Or.inl ⟨e, fun i hi => ?_⟩
    rcases Nat.lt_or_ge i j with h | h
    · exact f i h
    · obtain rfl : i = j := by omega
      exact D_of hb hd
  · refine Or.inr (Or.inl ⟨e, q, by omega, g2, g3, fun i hi hq => ?_⟩)
    rcases Nat.lt_or_ge i j with h | h
    · exact g4 i h hq
    · obtain rfl : i = j := by omega
      exact D_of hb hd
  · exact Or.inr (Or.inr h5)

theorem minv_dot {l : List UInt8} {j d : Nat} {p : Int} (h : MInv l j d p) (hb : l[j]? = some 46) : MInv l (j + 1) (d + 1) j := by
  have hj := lt_of_at hb
  obtain ⟨h1, h2, h3, h4, h5⟩ := h
  refine ⟨by omega, by omega, by omega, by omega, ?_⟩
  rcases h5 with ⟨e, f⟩ | ⟨e, q, g1, g2, g3, g4⟩ | ⟨e, q, r, g1, g2, g3⟩
  · refine Or.inr (Or.inl ⟨by omega, j, by omega, rfl, hb, fun i hi hq => f i (by omega)⟩)
  · exact Or.inr (Or.inr ⟨by omega, q, j, by omega, g3, hb⟩)
  · exact Or.inr (Or.inr ⟨by omega, q, r, g1, g2, g3⟩)

theorem minv_many {l : List UInt8} {d : Nat} {p : Int} (h : MInv l l.length d p) (hd : 1 < d) : ¬ GoodAt l 0 := by
  intro hg
  rcases h.cases with ⟨e, f⟩ | ⟨e, _⟩ | ⟨e, q, r, g1, g2, g3⟩
  · omega
  · omega
  · exact g1 ((good_at_point g3 hg).2.2 q g2)

theorem minv_none {l : List UInt8} {p : Int} (h : MInv l l.length 0 p) (h0 : 0 < l.length) : GoodAt l 0 := by
  rcases h.cases with ⟨e, f⟩ | ⟨e, _⟩ | ⟨e, _⟩
  · exact ⟨l.length, h0, Nat.le_refl _, fun j _ hj => f j hj, Or.inl rfl⟩
  · omega
  · omega

theorem minv_one {l : List UInt8} {p : Int} (h : MInv l l.length 1 p) : GoodAt l 0 ↔ ¬ (p = 0 ∨ p = (l.length : Int) - 1) := by
  rcases h.cases with ⟨e, f⟩ | ⟨e, q, g1, g2, g3, g4⟩ | ⟨e, _⟩
  · omega
  · constructor
    · intro hg
      have := good_at_point g3 hg
      omega
    · intro hn
      refine ⟨q, by omega, by omega, fun j _ hj => g4 j (by omega) (by omega), Or.inr ⟨g3, by omega, fun j a b => g4 j b (by omega)⟩⟩
  · omega
end Go.Proofs.Qxb6602895a
