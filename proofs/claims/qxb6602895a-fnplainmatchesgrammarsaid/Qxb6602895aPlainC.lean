/-
  DERIVED. Plain mathematics for 'plain' and 'modelPlain': the plain decimals, by places. No Go in sight.
-/
import Derived.Test.Qxb6602895aPlainB
namespace Go.Proofs.Qxb6602895a
open Go.RowKit
set_option linter.unusedVariables false

theorem at_list (s : ByteArray) (k : Nat) (h : k < s.size) : s.data.toList[k]? = some s[k] := by
  simp [ByteArray.getElem_eq_getElem_data]
theorem len_list (s : ByteArray) : s.data.toList.length = s.size := by simp

/-- Place j holds a digit. -/
def D (l : List UInt8) (j : Nat) : Prop := ∃ b, l[j]? = some b ∧ dig b

/-- From place i on the bytes are digits up to place k, and no further. -/
structure RunTo (l : List UInt8) (i k : Nat) : Prop where
  le : i ≤ k
  size : k ≤ l.length
  digs : ∀ j, i ≤ j → j < k → D l j
  stop : ¬ D l k

/-- From place i on: digits, and then nothing, or a point and digits. -/
def GoodAt (l : List UInt8) (i : Nat) : Prop :=
  ∃ k, i < k ∧ k ≤ l.length ∧ (∀ j, i ≤ j → j < k → D l j) ∧
    (k = l.length ∨ (l[k]? = some 46 ∧ k + 1 < l.length ∧ ∀ j, k + 1 ≤ j → j < l.length → D l j))

def Good (l : List UInt8) : Prop := GoodAt l (if l[0]? = some 45 then 1 else 0)

theorem not_D_end (l : List UInt8) : ¬ D l l.length := by
  rintro ⟨b, h, _⟩; simp at h
theorem not_D_of {l : List UInt8} {j : Nat} {b : UInt8} (h : l[j]? = some b) (hb : ¬ dig b) : ¬ D l j := by
  rintro ⟨c, h2, h3⟩; rw [h] at h2; cases h2; exact hb h3
theorem D_of {l : List UInt8} {j : Nat} {b : UInt8} (h : l[j]? = some b) (hb : dig b) : D l j := ⟨b, h, hb⟩
theorem not_dig_46 : ¬ dig 46 := by unfold dig; decide
theorem not_dig_45 : ¬ dig 45 := by unfold dig; decide

theorem good_run {l : List UInt8} {i k k' : Nat} (hr : RunTo l i k) (hk : i < k') (hk2 : k' ≤ l.length) (hd : ∀ j, i ≤ j → j < k' → D l j) (hs : ¬ D l k') : k' = k := by
  rcases Nat.lt_trichotomy k' k with h | h | h
  · exact absurd (hr.digs k' (by omega) h) hs
  · exact h
  · exact absurd (hd k hr.le h) hr.stop

theorem good_none {l : List UInt8} {i k : Nat} (hr : RunTo l i k) (h : k = i) : ¬ GoodAt l i := by
  rintro ⟨k', h1, h2, h3, h4⟩
  exact hr.stop (h ▸ h3 i (Nat.le_refl _) h1)

theorem good_plain {l : List UInt8} {i k : Nat} (hr : RunTo l i k) (h : k ≠ i) (h46 : l[k]? ≠ some 46) : GoodAt l i ↔ k = l.length := by
  constructor
  · rintro ⟨k', h1, h2, h3, h4⟩
    rcases h4 with h4 | ⟨h4, h5, h6⟩
    · rw [← h4]; exact (good_run hr h1 h2 h3 (h4 ▸ not_D_end l)).symm
    · have := good_run hr h1 h2 h3 (not_D_of h4 not_dig_46)
      subst this; exact absurd h4 h46
  · intro hk
    exact ⟨k, by have := hr.le; omega, hr.size, hr.digs, Or.inl hk⟩

theorem good_point {l : List UInt8} {i k k2 : Nat} (hr : RunTo l i k) (h : k ≠ i) (h46 : l[k]? = some 46) (hr2 : RunTo l (k + 1) k2) : GoodAt l i ↔ (k2 ≠ k + 1 ∧ k2 = l.length) := by
  have hkl : k < l.length := by
    rcases Nat.lt_or_ge k l.length with h1 | h1
    · exact h1
    · rw [List.getElem?_eq_none h1] at h46; cases h46
  constructor
  · rintro ⟨k', h1, h2, h3, h4⟩
    rcases h4 with h4 | ⟨h4, h5, h6⟩
    · have := good_run hr h1 h2 h3 (h4 ▸ not_D_end l)
      omega
    · have := good_run hr h1 h2 h3 (not_D_of h4 not_dig_46)
      subst this
      have hk2 := good_run hr2 h5 (Nat.le_refl _) h6 (not_D_end l)
      omega
  · rintro ⟨h1, h2⟩
    have := hr2.le
    refine ⟨k, by have := hr.le; omega, hr.size, hr.digs, Or.inr ⟨h46, by omega, ?_⟩⟩
    rw [← h2]; exact hr2.digs

/-- Where a place is no digit and no point, or where two places hold points, the text is not plain. -/
theorem good_bad {l : List UInt8} {j : Nat} {b : UInt8} (h : l[j]? = some b) (hb : ¬ dig b) (hp : b ≠ 46) : ¬ GoodAt l 0 := by
  rintro ⟨k, h1, h2, h3, h4⟩
  have hj : j < l.length := by
    rcases Nat.lt_or_ge j l.length with h1 | h1
    · exact h1
    · rw [List.getElem?_eq_none h1] at h; cases h
  have hnd := not_D_of h hb
  rcases Nat.lt_or_ge j k with h5 | h5
  · exact hnd (h3 j (by omega) h5)
  · rcases h4 with h4 | ⟨h4, h6, h7⟩
    · omega
    · rcases Nat.eq_or_lt_of_le h5 with h8 | h8
      · subst h8; rw [h] at h4; cases h4; exact hp rfl
      · exact hnd (h7 j h8 hj)

theorem good_at_point {l : List UInt8} {p : Nat} (h : l[p]? = some 46) (hg : GoodAt l 0) : 0 < p ∧ p + 1 < l.length ∧ (∀ q, l[q]? = some 46 → q = p) := by
  obtain ⟨k, h1, h2, h3, h4⟩ := hg
  have key : ∀ q, l[q]? = some 46 → q = k ∧ k ≠ l.length := by
    intro q hq
    have hql : q < l.length := by
      rcases Nat.lt_or_ge q l.length with h1 | h1
      · exact h1
      · rw [List.getElem?_eq_none h1] at hq; cases hq
    have hnd := not_D_of hq not_dig_46
    rcases Nat.lt_or_ge q k with h5 | h5
    · exact absurd (h3 q (by omega) h5) hnd
    · rcases h4 with h4 | ⟨h4, h6, h7⟩
      · omega
      · rcases Nat.eq_or_lt_of_le h5 with h8 | h8
        · omega
        · exact absurd (h7 q h8 hql) hnd
  obtain ⟨rfl, hk⟩ := key p h
  rcases h4 with h4 | ⟨h4, h6, h7⟩
  · exact absurd h4 hk
  · exact ⟨h1, h6, fun q hq => (key q hq).1⟩

theorem good_drop (l : List UInt8) (h : 0 < l.length) : GoodAt (l.drop 1) 0 ↔ GoodAt l 1 := by
  have hD : ∀ j, D (l.drop 1) j ↔ D l (1 + j) := fun j => by simp only [D, List.getElem?_drop]
  have hlen : (l.drop 1).length = l.length - 1 := by simp
  constructor
  · rintro ⟨k, h1, h2, h3, h4⟩
    rw [hlen] at h2 h4
    refine ⟨1 + k, by omega, by omega, fun j a b => ?_, ?_⟩
    · have := (hD (j - 1)).1 (h3 (j - 1) (by omega) (by omega))
      rwa [show 1 + (j - 1) = j by omega] at this
    · rcases h4 with h4 | ⟨h4, h5, h6⟩
      · left; omega
      · right
        refine ⟨by rw [← List.getElem?_drop]; exact h4, by omega, fun j a b => ?_⟩
        have := (hD (j - 1)).1 (h6 (j - 1) (by omega) (by omega))
        rwa [show 1 + (j - 1) = j by omega] at this
  · rintro ⟨k, h1, h2, h3, h4⟩
    refine ⟨k - 1, by omega, by omega, fun j a b => ?_, ?_⟩
    · exact (hD j).2 (h3 (1 + j) (by omega) (by omega))
    · rcases h4 with h4 | ⟨h4, h5, h6⟩
      · left; omega
      · right
        refine ⟨by rw [List.getElem?_drop, show 1 + (k - 1) = k by omega]; exact h4, by omega, fun j a b => ?_⟩
        exact (hD j).2 (h6 (1 + j) (by omega) (by omega))
end Go.Proofs.Qxb6602895a
