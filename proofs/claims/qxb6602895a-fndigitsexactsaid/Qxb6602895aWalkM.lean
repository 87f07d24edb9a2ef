/-
  DERIVED. The walk of 'modelPlain' (11).
-/
import Derived.Test.Qxb6602895aProg
import Derived.WalkKit
import Derived.WalkSpells
import Derived.WalkLawsBesides
import Derived.Test.Qxb6602895aPlainE
namespace Go.Proofs.Qxb6602895a
open Go.RowKit
set_option linter.unusedVariables false

/-- It returns the bool that says whether P. -/
def Ans (e : Ending) (P : Prop) : Prop := ∃ b : Bool, e = .returned (.bool b) ∧ (b = true ↔ P)
theorem m_some_ne (c b : UInt8) (h : ((b.toNat : Int) == (c.toNat : Int)) = false) : b ≠ c := by
  intro e; subst e; simp at h
theorem m_eq (c b : UInt8) (h : ((b.toNat : Int) == (c.toNat : Int)) = true) : b = c :=
  UInt8.toNat_inj.1 (by have := eq_of_beq h; omega)
theorem m_dig_of (b : UInt8) (h : 48 ≤ (b.toNat : Int)) (h2 : (b.toNat : Int) ≤ 57) : dig b := by unfold dig; omega
theorem m_not_dig_hi (b : UInt8) (h2 : 57 < (b.toNat : Int)) : ¬ dig b := by unfold dig; omega
theorem m_not_dig_lo (b : UInt8) (h2 : (b.toNat : Int) < 48) : ¬ dig b := by unfold dig; omega

set_option maxHeartbeats 800000 in
theorem model_minus (s t : ByteArray) (HT : Hid (t = s.extract 1 s.size)) (w : World) (hs : s.size ≤ 2097152) (h0 : 1 < s.size) (h45 : ((s[0].toNat : Int) == 45) = true) :
    Calls Try.prog 11 #[.string s] w fun e w' => w = w' ∧ Ans e (GoodAt t.data.toList 0) := by
  have hz : (((s.size - 1 : Nat) : Int) == 0) = false := by simp; omega
  go_enter Try.func11, Try.ntmps11
  go_wp2
  have htz : 0 < t.size ∧ t.size ≤ 2097152 := by rw [HT.out]; simp; omega
  obtain ⟨ht0, ht1⟩ := htz
  rw [← HT.out]
  go_loop [4, 5, 6] (fun a b c => ∃ (j d : Nat) (p : Int), a = .int .i64 d ∧ b = .int .i64 p ∧ c = .int .i64 j ∧ MInv t.data.toList j d p) (fun _ _ c => t.size - (intOf c).toNat)
  case atStart => exact ⟨0, 0, -1, rfl, rfl, rfl, minv_start _⟩
  case round =>
    obtain ⟨j, d, p, rfl, rfl, rfl, hm⟩ := hrel
    have hjl := hm.le
    have hdj := hm.few
    have hp1 := hm.lo
    have hp2 := hm.hi
    rw [len_list] at hjl
    have HM : Hid (MInv t.data.toList j d p) := hm
    clear hm
    by_cases hlt : j < t.size
    · have HA : Hid (t.data.toList[j]? = some t[j]) := at_list t j hlt
      go_wp2
      · have h46 : ((t[j].toNat : Int) == 46) = true := by assumption
        go_round
        case rel => exact ⟨j + 1, d + 1, j, by go_num, rfl, by go_num, minv_dot HM.out (by rw [HA.out, m_eq 46 _ h46])⟩
        case measure => simp [intOf]; omega
      · have h46 : ((t[j].toNat : Int) == 46) = false := by assumption
        have h3 : (!decide ((t[j].toNat : Int) ≤ 57)) = true := by assumption
        have h2 : 57 < (t[j].toNat : Int) := by simpa using h3
        go_ret
        exact ⟨rfl, false, rfl, by simp [good_bad HA.out (m_not_dig_hi _ h2) (m_some_ne 46 _ h46)]⟩
      · have h1 : 48 ≤ (t[j].toNat : Int) := by assumption
        have h3 : (!decide ((t[j].toNat : Int) ≤ 57)) = false := by assumption
        have h2 : (t[j].toNat : Int) ≤ 57 := by simpa using h3
        go_round
        case rel => exact ⟨j + 1, d, p, rfl, rfl, by go_num, minv_dig HM.out HA.out (m_dig_of _ h1 h2)⟩
        case measure => simp [intOf]; omega
      · have h46 : ((t[j].toNat : Int) == 46) = false := by assumption
        have h2 : (t[j].toNat : Int) < 48 := by assumption
        go_ret
        exact ⟨rfl, false, rfl, by simp [good_bad HA.out (m_not_dig_lo _ h2) (m_some_ne 46 _ h46)]⟩
    · have HE : Hid (MInv t.data.toList t.data.toList.length d p) := by
        have : j = t.data.toList.length := by rw [len_list]; omega
        unfold Hid; rw [← this]; exact HM.out
      by_cases hd1 : 1 < d
      · go_wp2
        go_ret
        exact ⟨rfl, false, rfl, by simp [minv_many HE.out hd1]⟩
      · by_cases hd0 : d < 1
        · go_wp2
          go_ret
          have hd : d = 0 := by omega
          exact ⟨rfl, true, rfl, by simp [minv_none (hd ▸ HE.out) (by rw [len_list]; omega)]⟩
        · have HO : Hid (GoodAt t.data.toList 0 ↔ ¬ (p = 0 ∨ p = (t.size : Int) - 1)) := by
            have hd : d = 1 := by omega
            have := minv_one (hd ▸ HE.out)
            rw [len_list] at this
            exact this
          by_cases hpa : p = 0
          · have hpb : (p == 0) = true := by simp [hpa]
            have HP : Hid (p = 0) := hpa
            clear hpa
            go_wp2
            go_ret
            exact ⟨rfl, false, rfl, by rw [HO.out]; simp [HP.out]⟩
          · have hpb : (p == 0) = false := by simpa using hpa
            by_cases hpc : p = (t.size : Int) - 1
            · have hpd : (p == (t.size : Int) - 1) = true := by simp [hpc]
              have HP : Hid (p = (t.size : Int) - 1) := hpc
              clear hpc
              go_wp2
              go_ret
              exact ⟨rfl, false, rfl, by rw [HO.out]; simp [HP.out]⟩
            · have hpd : (p == (t.size : Int) - 1) = false := by simpa using hpc
              go_wp2
              go_ret
              exact ⟨rfl, true, rfl, by rw [HO.out]; simp [hpa, hpc]⟩

set_option maxHeartbeats 800000 in
theorem model_other (t : ByteArray) (w : World) (ht1 : t.size ≤ 2097152) (ht0 : 0 < t.size) (h45 : ((t[0].toNat : Int) == 45) = false) :
    Calls Try.prog 11 #[.string t] w fun e w' => w = w' ∧ Ans e (GoodAt t.data.toList 0) := by
  have hz : ((t.size : Int) == 0) = false := beq_false_of_ne (by omega)
  go_enter Try.func11, Try.ntmps11
  go_wp2
  go_loop [4, 5, 6] (fun a b c => ∃ (j d : Nat) (p : Int), a = .int .i64 d ∧ b = .int .i64 p ∧ c = .int .i64 j ∧ MInv t.data.toList j d p) (fun _ _ c => t.size - (intOf c).toNat)
  case atStart => exact ⟨0, 0, -1, rfl, rfl, rfl, minv_start _⟩
  case round =>
    obtain ⟨j, d, p, rfl, rfl, rfl, hm⟩ := hrel
    have hjl := hm.le
    have hdj := hm.few
    have hp1 := hm.lo
    have hp2 := hm.hi
    rw [len_list] at hjl
    have HM : Hid (MInv t.data.toList j d p) := hm
    clear hm
    by_cases hlt : j < t.size
    · have HA : Hid (t.data.toList[j]? = some t[j]) := at_list t j hlt
      go_wp2
      · have h46 : ((t[j].toNat : Int) == 46) = true := by assumption
        go_round
        case rel => exact ⟨j + 1, d + 1, j, by go_num, rfl, by go_num, minv_dot HM.out (by rw [HA.out, m_eq 46 _ h46])⟩
        case measure => simp [intOf]; omega
      · have h46 : ((t[j].toNat : Int) == 46) = false := by assumption
        have h3 : (!decide ((t[j].toNat : Int) ≤ 57)) = true := by assumption
        have h2 : 57 < (t[j].toNat : Int) := by simpa using h3
        go_ret
        exact ⟨rfl, false, rfl, by simp [good_bad HA.out (m_not_dig_hi _ h2) (m_some_ne 46 _ h46)]⟩
      · have h1 : 48 ≤ (t[j].toNat : Int) := by assumption
        have h3 : (!decide ((t[j].toNat : Int) ≤ 57)) = false := by assumption
        have h2 : (t[j].toNat : Int) ≤ 57 := by simpa using h3
        go_round
        case rel => exact ⟨j + 1, d, p, rfl, rfl, by go_num, minv_dig HM.out HA.out (m_dig_of _ h1 h2)⟩
        case measure => simp [intOf]; omega
      · have h46 : ((t[j].toNat : Int) == 46) = false := by assumption
        have h2 : (t[j].toNat : Int) < 48 := by assumption
        go_ret
        exact ⟨rfl, false, rfl, by simp [good_bad HA.out (m_not_dig_lo _ h2) (m_some_ne 46 _ h46)]⟩
    · have HE : Hid (MInv t.data.toList t.data.toList.length d p) := by
        have : j = t.data.toList.length := by rw [len_list]; omega
        unfold Hid; rw [← this]; exact HM.out
      by_cases hd1 : 1 < d
      · go_wp2
        go_ret
        exact ⟨rfl, false, rfl, by simp [minv_many HE.out hd1]⟩
      · by_cases hd0 : d < 1
        · go_wp2
          go_ret
          have hd : d = 0 := by omega
          exact ⟨rfl, true, rfl, by simp [minv_none (hd ▸ HE.out) (by rw [len_list]; omega)]⟩
        · have HO : Hid (GoodAt t.data.toList 0 ↔ ¬ (p = 0 ∨ p = (t.size : Int) - 1)) := by
            have hd : d = 1 := by omega
            have := minv_one (hd ▸ HE.out)
            rw [len_list] at this
            exact this
          by_cases hpa : p = 0
          · have hpb : (p == 0) = true := by simp [hpa]
            have HP : Hid (p = 0) := hpa
            clear hpa
            go_wp2
            go_ret
            exact ⟨rfl, false, rfl, by rw [HO.out]; simp [HP.out]⟩
          · have hpb : (p == 0) = false := by simpa using hpa
            by_cases hpc : p = (t.size : Int) - 1
            · have hpd : (p == (t.size : Int) - 1) = true := by simp [hpc]
              have HP : Hid (p = (t.size : Int) - 1) := hpc
              clear hpc
              go_wp2
              go_ret
              exact ⟨rfl, false, rfl, by rw [HO.out]; simp [HP.out]⟩
            · have hpd : (p == (t.size : Int) - 1) = false := by simpa using hpc
              go_wp2
              go_ret
              exact ⟨rfl, true, rfl, by rw [HO.out]; simp [hpa, hpc]⟩

set_option maxHeartbeats 400000 in
theorem model_lone (s : ByteArray) (w : World) (h1 : 0 < s.size) (h2 : s.size ≤ 1) (h45 : ((s[0].toNat : Int) == 45) = true) :
    Calls Try.prog 11 #[.string s] w fun e w' => e = .returned (.bool false) ∧ w = w' := by
  have hz : (((s.size - 1 : Nat) : Int) == 0) = true := by simp; omega
  go_enter Try.func11, Try.ntmps11
  go_wp2
  go_ret
  exact ⟨rfl, rfl⟩

set_option maxHeartbeats 400000 in
theorem model_empty (s : ByteArray) (w : World) (h0 : ¬ 0 < s.size) :
    Calls Try.prog 11 #[.string s] w fun e w' => e = .returned (.bool false) ∧ w = w' := by
  have hz : ((s.size : Int) == 0) = true := by rw [beq_iff_eq]; omega
  go_enter Try.func11, Try.ntmps11
  go_wp2
  go_ret
  exact ⟨rfl, rfl⟩

theorem extract_list (s : ByteArray) : (s.extract 1 s.size).data.toList = s.data.toList.drop 1 := by
  rw [ByteArray.data_extract, Array.toList_extract, List.extract_eq_take_drop, List.take_of_length_le]
  simp

theorem model_any (s : ByteArray) (w : World) (hs : s.size ≤ 2097152) :
    Calls Try.prog 11 #[.string s] w fun e w' => w = w' ∧ Ans e (Good s.data.toList) := by
  by_cases h0 : 0 < s.size
  · have HA := at_list s 0 h0
    by_cases h45 : ((s[0].toNat : Int) == 45) = true
    · have hg : Good s.data.toList ↔ GoodAt (s.extract 1 s.size).data.toList 0 := by
        unfold Good
        rw [if_pos (by rw [HA, m_eq 45 _ h45]), extract_list, good_drop _ (by rw [len_list]; omega)]
      by_cases h1 : s.size = 1
      · refine (model_lone s w h0 (by omega) h45).mono ?_
        rintro e w' ⟨rfl, rfl⟩
        refine ⟨rfl, false, rfl, ?_⟩
        rw [hg, extract_list]
        constructor
        · intro h; cases h
        · rintro ⟨k, h2, h3, _⟩
          simp [h1] at h3; omega
      · refine (model_minus s _ rfl w hs (by omega) h45).mono ?_
        rintro e w' ⟨rfl, b, rfl, h⟩
        exact ⟨rfl, b, rfl, h.trans hg.symm⟩
    · have hg : Good s.data.toList ↔ GoodAt s.data.toList 0 := by
        unfold Good
        rw [if_neg (by rw [HA]; intro e; injection e with e; exact m_some_ne 45 _ (by simpa using h45) e)]
      refine (model_other s w hs h0 (by simpa using h45)).mono ?_
      rintro e w' ⟨rfl, b, rfl, h⟩
      exact ⟨rfl, b, rfl, h.trans hg.symm⟩
  · refine (model_empty s w h0).mono ?_
    rintro e w' ⟨rfl, rfl⟩
    refine ⟨rfl, false, rfl, ?_⟩
    constructor
    · intro h; cases h
    · unfold Good
      rintro ⟨k, h2, h3, _⟩
      rw [len_list] at h3
      exact absurd h2 (by omega)
end Go.Proofs.Qxb6602895a
