/-
  DERIVED. Plain mathematics for 'render': decimal digits, least first; the bytes that are written out. No Go in sight.
-/
import Derived.Test.Qxb6602895aPlainA
namespace Go.Proofs.Qxb6602895a
open Go.RowKit
set_option linter.unusedVariables false

/-- The value of decimal digits (as bytes), least first. -/
def valLE : List UInt8 → Nat
  | [] => 0
  | b :: l => (b.toNat - 48) + 10 * valLE l
def dig (b : UInt8) : Prop := 48 ≤ b.toNat ∧ b.toNat ≤ 57

theorem valLE_append (a b : List UInt8) : valLE (a ++ b) = valLE a + 10 ^ a.length * valLE b := by
  induction a with
  | nil => simp [valLE]
  | cons x a ih =>
    simp only [List.cons_append, valLE, ih, List.length_cons, Nat.pow_succ]
    rw [Nat.mul_add, Nat.mul_comm (10 ^ a.length) 10, Nat.mul_assoc]; omega

theorem toNat_ofNat_dig (u : Nat) : (UInt8.ofNat (48 + u % 10)).toNat = 48 + u % 10 := by
  simp; omega

theorem valLE_step (u U0 : Nat) (L : List UInt8) (h : u * 10 ^ L.length + valLE L = U0) :
    (u / 10) * 10 ^ (L ++ [UInt8.ofNat (48 + u % 10)]).length + valLE (L ++ [UInt8.ofNat (48 + u % 10)]) = U0 := by
  rw [valLE_append, List.length_append]
  simp only [valLE, toNat_ofNat_dig, List.length_cons, List.length_nil, Nat.mul_zero, Nat.add_zero, Nat.zero_add, Nat.pow_succ]
  have e : 48 + u % 10 - 48 = u % 10 := by omega
  rw [e]
  have h1 : u / 10 * (10 ^ L.length * 10) + 10 ^ L.length * (u % 10) = u * 10 ^ L.length := by
    have : u = u / 10 * 10 + u % 10 := by omega
    calc u / 10 * (10 ^ L.length * 10) + 10 ^ L.length * (u % 10) = (u / 10 * 10 + u % 10) * 10 ^ L.length := by
          rw [Nat.add_mul, Nat.mul_comm (10 ^ L.length) (u % 10), Nat.mul_comm (10 ^ L.length) 10, ← Nat.mul_assoc]
      _ = u * 10 ^ L.length := by rw [← this]
  omega

theorem valLE_short (u U0 : Nat) (L : List UInt8) (h : u * 10 ^ L.length + valLE L = U0) (hu : 0 < u) (h63 : U0 ≤ 9223372036854775808) : L.length ≤ 19 := by
  rcases Nat.lt_or_ge 19 L.length with hl | hl
  · exfalso
    have h1 : 10 ^ 20 ≤ 10 ^ L.length := Nat.pow_le_pow_right (by omega) hl
    have h2 : 10 ^ L.length ≤ u * 10 ^ L.length := Nat.le_mul_of_pos_left _ hu
    have h3 : (10 : Nat) ^ 20 = 100000000000000000000 := by decide
    omega
  · exact hl

theorem valLE_zero (L : List UInt8) (n : Nat) (h : valLE L = n) : valLE (L ++ [48]) = n := by
  rw [valLE_append, h]; simp [valLE]

theorem dig_snoc {L : List UInt8} {b : UInt8} (h : ∀ x ∈ L, dig x) (hb : dig b) : ∀ x ∈ L ++ [b], dig x := by
  intro x hx
  rcases List.mem_append.1 hx with h1 | h1
  · exact h x h1
  · simp at h1; subst h1; exact hb

theorem dig_of_step (u : Nat) : dig (UInt8.ofNat (48 + u % 10)) := by
  unfold dig; rw [toNat_ofNat_dig]; omega

/-- What is written when the digits from place m on are out. -/
def outB (sg : List UInt8) (L : List UInt8) (K m : Nat) : List UInt8 :=
  sg ++ (if 0 < K ∧ m ≤ K then (L.drop K).reverse ++ 46 :: ((L.take K).drop m).reverse else (L.drop m).reverse)

theorem outB_start (sg L : List UInt8) (K : Nat) (hK : K < L.length) : outB sg L K L.length = sg := by
  unfold outB
  rw [if_neg (by omega)]; simp

theorem drop_rev (L : List UInt8) (m : Nat) (h : m < L.length) : (L.drop m).reverse = (L.drop (m + 1)).reverse ++ [L[m]] := by
  rw [List.drop_eq_getElem_cons h, List.reverse_cons]

theorem outB_digit (sg L : List UInt8) (K m : Nat) (h : m < L.length) (hK : K < L.length) (hn : ¬ (m = K ∧ 0 < K)) : outB sg L K m = outB sg L K (m + 1) ++ [L[m]] := by
  unfold outB
  by_cases h1 : 0 < K ∧ m ≤ K
  · have h2 : 0 < K ∧ m + 1 ≤ K := ⟨h1.1, by omega⟩
    rw [if_pos h1, if_pos h2]
    have hl : m < (L.take K).length := by rw [List.length_take]; omega
    rw [drop_rev (L.take K) m hl]
    simp
  · have h2 : ¬ (0 < K ∧ m + 1 ≤ K) := by omega
    rw [if_neg h1, if_neg h2, drop_rev L m h]; simp

theorem outB_point (sg L : List UInt8) (K : Nat) (h : K < L.length) (hK : 0 < K) : outB sg L K K = outB sg L K (K + 1) ++ [L[K]] ++ [46] := by
  unfold outB
  rw [if_pos ⟨hK, Nat.le_refl _⟩, if_neg (by omega), drop_rev L K h]
  simp

theorem outB_len (sg L : List UInt8) (K m : Nat) : (outB sg L K m).length ≤ sg.length + L.length + 1 := by
  unfold outB
  split
  · simp; omega
  · simp; omega

/-- 'render' in one word. -/
structure Rend (neg : Bool) (U K : Nat) (l : List UInt8) (L : List UInt8) : Prop where
  digs : ∀ x ∈ L, dig x
  val : valLE L = U
  long : K < L.length
  short : L.length ≤ 70000
  said : l = outB (if neg then [45] else []) L K 0

theorem dst_of_dig (st : Int × Int × Bool) (b : UInt8) (h : dig b) : dst st b = (st.1 * 10 + ((b.toNat : Int) - 48), if st.2.2 then st.2.1 + 1 else st.2.1, st.2.2) := by
  unfold dig at h
  unfold dst; rw [if_neg (by omega), if_neg (by omega)]

theorem fold_digs (L : List UInt8) (h : ∀ x ∈ L, dig x) (st : Int × Int × Bool) :
    L.reverse.foldl dst st = (st.1 * 10 ^ L.length + (valLE L : Int), if st.2.2 then st.2.1 + L.length else st.2.1, st.2.2) := by
  induction L with
  | nil => simp [valLE]
  | cons b l ih =>
    have hb := h b (by simp)
    rw [List.reverse_cons, List.foldl_append, ih (fun x hx => h x (by simp [hx]))]
    simp only [List.foldl_cons, List.foldl_nil]
    rw [dst_of_dig _ _ hb]
    unfold dig at hb
    have e : ((b.toNat - 48 : Nat) : Int) = (b.toNat : Int) - 48 := by omega
    refine Prod.ext ?_ (Prod.ext ?_ rfl)
    · simp only [valLE, List.length_cons, Int.pow_succ, Int.natCast_add, Int.natCast_mul, e, Int.add_mul, Int.mul_assoc]
      simp only [Int.mul_comm, Int.add_comm, Int.add_left_comm]
      rfl
    · simp only [List.length_cons]
      split <;> omega

theorem dst_45 (st : Int × Int × Bool) : dst st 45 = st := rfl
theorem dst_46 (st : Int × Int × Bool) : dst st 46 = (st.1, st.2.1, true) := rfl

theorem rend_fold {neg : Bool} {U K : Nat} {l L : List UInt8} (h : Rend neg U K l L) : (dfold l).1 = (U : Int) ∧ (dfold l).2.1 = (K : Int) := by
  obtain ⟨hd, hv, hK, hs, rfl⟩ := h
  have hsg : ∀ st, (if neg then [45] else [] : List UInt8).foldl dst st = st := by
    intro st; cases neg <;> simp [dst_45]
  unfold dfold outB
  rw [List.foldl_append, hsg]
  by_cases h0 : 0 < K
  · rw [if_pos ⟨h0, by omega⟩, List.foldl_append, List.foldl_cons, List.drop_zero]
    rw [fold_digs (L.drop K) (fun x hx => hd x (List.mem_of_mem_drop hx)), dst_46]
    rw [fold_digs (L.take K) (fun x hx => hd x (List.mem_of_mem_take hx))]
    have hlen : (L.take K).length = K := by rw [List.length_take]; omega
    have hv2 : valLE L = valLE (L.take K) + 10 ^ K * valLE (L.drop K) := by
      conv => lhs; rw [← List.take_append_drop K L]
      rw [valLE_append, hlen]
    rw [hlen]
    constructor
    · simp only [Int.zero_mul, Int.zero_add]
      rw [← hv, hv2]
      simp only [Int.natCast_add, Int.natCast_mul, Int.natCast_pow]
      rw [Int.mul_comm, Int.add_comm]; rfl
    · simp
  · have hK0 : K = 0 := by omega
    subst hK0
    rw [if_neg (by omega), List.drop_zero, fold_digs L hd]
    simp [hv]

theorem rend_ok {neg : Bool} {U K : Nat} {l L : List UInt8} (h : Rend neg U K l L) : ∀ x ∈ l, okByte x := by
  obtain ⟨hd, hv, hK, hs, rfl⟩ := h
  intro x hx
  unfold outB at hx
  rcases List.mem_append.1 hx with h1 | h1
  · cases neg
    · simp at h1
    · simp at h1; subst h1; left; rfl
  · have hdx : x ∈ L → okByte x := fun hm => Or.inr (Or.inr (hd x hm))
    split at h1
    · rcases List.mem_append.1 h1 with h2 | h2
      · exact hdx (List.mem_of_mem_drop (List.mem_reverse.1 h2))
      · rcases List.mem_cons.1 h2 with h3 | h3
        · subst h3; right; left; rfl
        · exact hdx (List.mem_of_mem_take (List.mem_of_mem_drop (List.mem_reverse.1 h3)))
    · exact hdx (List.mem_of_mem_drop (List.mem_reverse.1 h1))

theorem rend_len {neg : Bool} {U K : Nat} {l L : List UInt8} (h : Rend neg U K l L) : 0 < l.length ∧ l.length ≤ 70002 := by
  obtain ⟨hd, hv, hK, hs, rfl⟩ := h
  constructor
  · unfold outB
    rw [List.length_append]
    by_cases h0 : 0 < K ∧ 0 ≤ K
    · rw [if_pos h0]; simp; omega
    · rw [if_neg h0]; simp; omega
  · have := outB_len (if neg then [45] else []) L K 0
    have h2 : (if neg then [45] else [] : List UInt8).length ≤ 1 := by cases neg <;> simp
    omega

theorem rend_head {neg : Bool} {U K : Nat} {l L : List UInt8} (h : Rend neg U K l L) (b : UInt8) (hb : l[0]? = some b) : b.toNat = 45 ↔ neg = true := by
  obtain ⟨hd, hv, hK, hs, rfl⟩ := h
  cases neg with
  | true => simp [outB] at hb; subst hb; simp
  | false =>
    simp only [Bool.false_eq_true, iff_false]
    have hdx : ∀ x, x ∈ L → x.toNat ≠ 45 := fun x hm he => by have := hd x hm; unfold dig at this; omega
    have hm : b ∈ L := by
      unfold outB at hb
      simp only [Bool.false_eq_true, if_false, List.nil_append] at hb
      split at hb
      · have hl : 0 < (L.drop K).reverse.length := by simp; omega
        rw [List.getElem?_append_left hl] at hb
        exact List.mem_of_mem_drop (List.mem_reverse.1 (List.mem_of_getElem? hb))
      · exact List.mem_of_mem_drop (List.mem_reverse.1 (List.mem_of_getElem? hb))
    exact hdx b hm
end Go.Proofs.Qxb6602895a
