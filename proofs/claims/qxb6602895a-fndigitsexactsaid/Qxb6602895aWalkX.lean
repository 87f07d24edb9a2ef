/-
  DERIVED. The walk of 'modelDigits' (16).
-/
import Derived.Test.Qxb6602895aWalkV
import Derived.Test.Qxb6602895aPlainG
import Derived.Test.Qxb6602895aWalkM
namespace Go.Proofs.Qxb6602895a
open Go.RowKit
set_option linter.unusedVariables false

theorem take_list (t : ByteArray) (k : Nat) : (t.extract 0 k).data.toList = t.data.toList.take k := by
  rw [ByteArray.data_extract, Array.toList_extract, List.extract_eq_take_drop]; simp
theorem drop_list (t : ByteArray) (k : Nat) : (t.extract (k + 1) t.size).data.toList = t.data.toList.drop (k + 1) := by
  rw [ByteArray.data_extract, Array.toList_extract, List.extract_eq_take_drop, List.take_of_length_le]
  simp

theorem wrap64_wu (x : Int) : wrap64 (wu x) = wrap64 x := by rw [wu_eq]; unfold wrap64; omega
theorem wrap64_wu_neg (x : Int) : wrap64 (IntKind.u64.wrap (-(wu x))) = wrap64 (-x) := by rw [wu_eq, IntKind.wrap_u64]; unfold wrap64; omega
def p10 (k : Nat) : Int := wu (10 ^ k)
theorem p10_step (k : Nat) : IntKind.u64.wrap (p10 k * 10) = p10 (k + 1) := by
  unfold p10; rw [wu_eq, wu_eq, IntKind.wrap_u64, Int.pow_succ]; omega
theorem coef_eq (a f : Int) (n : Nat) : IntKind.u64.wrap (IntKind.u64.wrap (wu a * p10 n) + wu f) = wu (a * 10 ^ n + f) := by
  unfold p10
  simp only [wu_eq, IntKind.wrap_u64]
  rw [← Int.mul_emod, ← Int.add_emod]

set_option maxHeartbeats 1000000 in
theorem md_minus (s t : ByteArray) (HT : Hid (t = s.extract 1 s.size)) (w : World) (hs : s.size ≤ 1048576) (h0 : 1 < s.size) (h45 : ((s[0].toNat : Int) == 45) = true) (hg : GoodAt t.data.toList 0) :
    Calls Try.prog 16 #[.string s] w fun e w' => w = w' ∧ ∃ I F, Split t.data.toList I F ∧ e = .returned (.tuple #[.int .i64 (wrap64 (-((dfold I).1 * 10 ^ F.length + (dfold F).1))), .int .i32 (-(F.length : Int))]) := by
  have htz : 0 < t.size ∧ t.size ≤ 1048576 := by rw [HT.out]; simp; omega
  obtain ⟨ht0, ht1⟩ := htz
  have HG : Hid (GoodAt t.data.toList 0) := hg
  clear hg
  go_enter Try.func16, Try.ntmps16
  go_wp2
  rw [← HT.out]
  go_loop [6, 7, 8] (fun a b c => ∃ k : Nat, a = .string t ∧ b = .string { data := #[] } ∧ c = .int .i64 k ∧ k ≤ t.size ∧ ∀ j, j < k → D t.data.toList j) (fun _ _ c => t.size - (intOf c).toNat)
  case atStart => exact ⟨0, rfl, rfl, rfl, Nat.zero_le _, fun j h => by omega⟩
  case round =>
    obtain ⟨k, rfl, rfl, rfl, hk, hd⟩ := hrel
    by_cases hlt : k < t.size
    · have HA : Hid (t.data.toList[k]? = some t[k]) := at_list t k hlt
      go_wp2
      · have h46 : ((t[k].toNat : Int) == 46) = true := by assumption
        have HP : Hid (t.data.toList[k]? = some 46) := by unfold Hid; rw [HA.out, m_eq 46 _ h46]
        obtain ⟨I, hI⟩ : ∃ I, I = t.extract 0 k := ⟨_, rfl⟩
        obtain ⟨F, hF⟩ : ∃ F, F = t.extract (k + 1) t.size := ⟨_, rfl⟩
        rw [← hI, ← hF]
        have HSP : Hid (Split t.data.toList I.data.toList F.data.toList) := by
          have e := cut_at HP.out
          unfold Hid
          rw [hI, hF, take_list, drop_list]
          have := split_point (t.data.toList.take k) (t.data.toList.drop (k + 1)) (digs_all k (by rw [len_list]; omega) hd) (digs_after HG.out HP.out)
          rwa [← e] at this
        have hIs : I.size ≤ 1048576 := by rw [hI]; simp; omega
        have hFs : F.size ≤ 1048576 := by rw [hF]; simp; omega
        have HDI : Hid (∀ x ∈ I.data.toList, dig x) := HSP.out.di
        have HDF : Hid (∀ x ∈ F.data.toList, dig x) := HSP.out.df
        clear hI hF hd
        go_loop [9, 10] (fun a b => ∃ k : Nat, k ≤ F.size ∧ b = .int .i64 k ∧ a = .int .u64 (p10 k)) (fun _ b => F.size - (intOf b).toNat)
        case atStart => exact ⟨0, Nat.zero_le _, rfl, rfl⟩
        case round =>
          obtain ⟨n, hn, rfl, rfl⟩ := hrel
          by_cases hnl : n < F.size
          · go_wp2
            go_round
            case rel => exact ⟨n + 1, by omega, by go_num, by rw [← p10_step]⟩
            case measure => simp [intOf]; omega
          · obtain rfl : n = F.size := by omega
            go_wp2_with fail
            refine (wrapValue_any I _ (by omega) HDI.out).mono ?_
            rintro e w1 ⟨rfl, rfl⟩
            go_wp2_with fail
            refine (wrapValue_any F _ (by omega) HDF.out).mono ?_
            rintro e w1 ⟨rfl, rfl⟩
            go_wp2
            go_ret2
            refine ⟨rfl, I.data.toList, F.data.toList, HSP.out, ret_ii2 ?_ (by rw [len_list])⟩
            rw [coef_eq, len_list]
            exact wrap64_wu_neg _
      · have h46 : ((t[k].toNat : Int) == 46) = false := by assumption
        have hdk : D t.data.toList k := by
          rcases goodAt_cases HG.out k (by rw [len_list]; omega) with h | h
          · exact h
          · rw [HA.out] at h; injection h with h; exact absurd h (m_some_ne 46 _ h46)
        go_round
        case rel =>
          refine ⟨k + 1, rfl, rfl, by go_num, by omega, fun j hj => ?_⟩
          rcases Nat.lt_or_ge j k with h | h
          · exact hd j h
          · obtain rfl : j = k := by omega
            exact hdk
        case measure => simp [intOf]; omega
    · go_wp2
      obtain ⟨F, hF⟩ : ∃ F : ByteArray, F = { data := #[] } := ⟨_, rfl⟩
      rw [← hF]
      have HSP : Hid (Split t.data.toList t.data.toList F.data.toList) := by
        unfold Hid
        rw [hF]
        refine split_whole _ (fun x hx => ?_)
        have h1 := digs_all (l := t.data.toList) k (by rw [len_list]; omega) hd
        rw [List.take_of_length_le (by rw [len_list]; omega)] at h1
        exact h1 x hx
      have hFs : F.size ≤ 1048576 := by rw [hF]; decide
      have HDI : Hid (∀ x ∈ t.data.toList, dig x) := HSP.out.di
      have HDF : Hid (∀ x ∈ F.data.toList, dig x) := HSP.out.df
      clear hF hd
      go_loop [9, 10] (fun a b => ∃ k : Nat, k ≤ F.size ∧ b = .int .i64 k ∧ a = .int .u64 (p10 k)) (fun _ b => F.size - (intOf b).toNat)
      case atStart => exact ⟨0, Nat.zero_le _, rfl, rfl⟩
      case round =>
        obtain ⟨n, hn, rfl, rfl⟩ := hrel
        by_cases hnl : n < F.size
        · go_wp2
          go_round
          case rel => exact ⟨n + 1, by omega, by go_num, by rw [← p10_step]⟩
          case measure => simp [intOf]; omega
        · obtain rfl : n = F.size := by omega
          go_wp2_with fail
          refine (wrapValue_any t _ (by omega) HDI.out).mono ?_
          rintro e w1 ⟨rfl, rfl⟩
          go_wp2_with fail
          refine (wrapValue_any F _ (by omega) HDF.out).mono ?_
          rintro e w1 ⟨rfl, rfl⟩
          go_wp2
          go_ret2
          refine ⟨rfl, t.data.toList, F.data.toList, HSP.out, ret_ii2 ?_ (by rw [len_list])⟩
          rw [coef_eq, len_list]
          exact wrap64_wu_neg _

set_option maxHeartbeats 1000000 in
theorem md_other (t : ByteArray) (w : World) (ht1 : t.size ≤ 1048576) (ht0 : 0 < t.size) (h45 : ((t[0].toNat : Int) == 45) = false) (hg : GoodAt t.data.toList 0) :
    Calls Try.prog 16 #[.string t] w fun e w' => w = w' ∧ ∃ I F, Split t.data.toList I F ∧ e = .returned (.tuple #[.int .i64 (wrap64 (((dfold I).1 * 10 ^ F.length + (dfold F).1))), .int .i32 (-(F.length : Int))]) := by
  have HG : Hid (GoodAt t.data.toList 0) := hg
  clear hg
  go_enter Try.func16, Try.ntmps16
  go_wp2
  go_loop [6, 7, 8] (fun a b c => ∃ k : Nat, a = .string t ∧ b = .string { data := #[] } ∧ c = .int .i64 k ∧ k ≤ t.size ∧ ∀ j, j < k → D t.data.toList j) (fun _ _ c => t.size - (intOf c).toNat)
  case atStart => exact ⟨0, rfl, rfl, rfl, Nat.zero_le _, fun j h => by omega⟩
  case round =>
    obtain ⟨k, rfl, rfl, rfl, hk, hd⟩ := hrel
    by_cases hlt : k < t.size
    · have HA : Hid (t.data.toList[k]? = some t[k]) := at_list t k hlt
      go_wp2
      · have h46 : ((t[k].toNat : Int) == 46) = true := by assumption
        have HP : Hid (t.data.toList[k]? = some 46) := by unfold Hid; rw [HA.out, m_eq 46 _ h46]
        obtain ⟨I, hI⟩ : ∃ I, I = t.extract 0 k := ⟨_, rfl⟩
        obtain ⟨F, hF⟩ : ∃ F, F = t.extract (k + 1) t.size := ⟨_, rfl⟩
        rw [← hI, ← hF]
        have HSP : Hid (Split t.data.toList I.data.toList F.data.toList) := by
          have e := cut_at HP.out
          unfold Hid
          rw [hI, hF, take_list, drop_list]
          have := split_point (t.data.toList.take k) (t.data.toList.drop (k + 1)) (digs_all k (by rw [len_list]; omega) hd) (digs_after HG.out HP.out)
          rwa [← e] at this
        have hIs : I.size ≤ 1048576 := by rw [hI]; simp; omega
        have hFs : F.size ≤ 1048576 := by rw [hF]; simp; omega
        have HDI : Hid (∀ x ∈ I.data.toList, dig x) := HSP.out.di
        have HDF : Hid (∀ x ∈ F.data.toList, dig x) := HSP.out.df
        clear hI hF hd
        go_loop [9, 10] (fun a b => ∃ k : Nat, k ≤ F.size ∧ b = .int .i64 k ∧ a = .int .u64 (p10 k)) (fun _ b => F.size - (intOf b).toNat)
        case atStart => exact ⟨0, Nat.zero_le _, rfl, rfl⟩
        case round =>
          obtain ⟨n, hn, rfl, rfl⟩ := hrel
          by_cases hnl : n < F.size
          · go_wp2
            go_round
            case rel => exact ⟨n + 1, by omega, by go_num, by rw [← p10_step]⟩
            case measure => simp [intOf]; omega
          · obtain rfl : n = F.size := by omega
            go_wp2_with fail
            refine (wrapValue_any I _ (by omega) HDI.out).mono ?_
            rintro e w1 ⟨rfl, rfl⟩
            go_wp2_with fail
            refine (wrapValue_any F _ (by omega) HDF.out).mono ?_
            rintro e w1 ⟨rfl, rfl⟩
            go_wp2
            go_ret2
            refine ⟨rfl, I.data.toList, F.data.toList, HSP.out, ret_ii2 ?_ (by rw [len_list])⟩
            rw [coef_eq, len_list]
            exact wrap64_wu _
      · have h46 : ((t[k].toNat : Int) == 46) = false := by assumption
        have hdk : D t.data.toList k := by
          rcases goodAt_cases HG.out k (by rw [len_list]; omega) with h | h
          · exact h
          · rw [HA.out] at h; injection h with h; exact absurd h (m_some_ne 46 _ h46)
        go_round
        case rel =>
          refine ⟨k + 1, rfl, rfl, by go_num, by omega, fun j hj => ?_⟩
          rcases Nat.lt_or_ge j k with h | h
          · exact hd j h
          · obtain rfl : j = k := by omega
            exact hdk
        case measure => simp [intOf]; omega
    · go_wp2
      obtain ⟨F, hF⟩ : ∃ F : ByteArray, F = { data := #[] } := ⟨_, rfl⟩
      rw [← hF]
      have HSP : Hid (Split t.data.toList t.data.toList F.data.toList) := by
        unfold Hid
        rw [hF]
        refine split_whole _ (fun x hx => ?_)
        have h1 := digs_all (l := t.data.toList) k (by rw [len_list]; omega) hd
        rw [List.take_of_length_le (by rw [len_list]; omega)] at h1
        exact h1 x hx
      have hFs : F.size ≤ 1048576 := by rw [hF]; decide
      have HDI : Hid (∀ x ∈ t.data.toList, dig x) := HSP.out.di
      have HDF : Hid (∀ x ∈ F.data.toList, dig x) := HSP.out.df
      clear hF hd
      go_loop [9, 10] (fun a b => ∃ k : Nat, k ≤ F.size ∧ b = .int .i64 k ∧ a = .int .u64 (p10 k)) (fun _ b => F.size - (intOf b).toNat)
      case atStart => exact ⟨0, Nat.zero_le _, rfl, rfl⟩
      case round =>
        obtain ⟨n, hn, rfl, rfl⟩ := hrel
        by_cases hnl : n < F.size
        · go_wp2
          go_round
          case rel => exact ⟨n + 1, by omega, by go_num, by rw [← p10_step]⟩
          case measure => simp [intOf]; omega
        · obtain rfl : n = F.size := by omega
          go_wp2_with fail
          refine (wrapValue_any t _ (by omega) HDI.out).mono ?_
          rintro e w1 ⟨rfl, rfl⟩
          go_wp2_with fail
          refine (wrapValue_any F _ (by omega) HDF.out).mono ?_
          rintro e w1 ⟨rfl, rfl⟩
          go_wp2
          go_ret2
          refine ⟨rfl, t.data.toList, F.data.toList, HSP.out, ret_ii2 ?_ (by rw [len_list])⟩
          rw [coef_eq, len_list]
          exact wrap64_wu _

theorem md_any (s : ByteArray) (w : World) (hs : s.size ≤ 1048576) (hg : Good s.data.toList) (b : UInt8) (hb : s.data.toList[0]? = some b) :
    Calls Try.prog 16 #[.string s] w fun e w' => e = .returned (.tuple #[.int .i64 (wrap64 (sgn b (dfold s.data.toList).1)), .int .i32 (-(dfold s.data.toList).2.1)]) ∧ w = w' := by
  have h0 : 0 < s.size := by have := lt_of_at hb; rw [len_list] at this; exact this
  have e0 : s[0] = b := by have := at_list s 0 h0; rw [hb] at this; injection this with this; exact this.symm
  unfold Good at hg
  by_cases h45 : b = 45
  · rw [if_pos (by rw [hb, h45])] at hg
    have hgt : GoodAt (s.extract 1 s.size).data.toList 0 := by rw [extract_list, good_drop _ (by rw [len_list]; omega)]; exact hg
    have h1 : 1 < s.size := by
      obtain ⟨k, h1, h2, _⟩ := hg
      rw [len_list] at h2; omega
    have hl : s.data.toList = 45 :: (s.extract 1 s.size).data.toList := by
      rw [extract_list, ← h45]
      have hp : 0 < s.data.toList.length := by rw [len_list]; exact h0
      have := List.drop_eq_getElem_cons hp
      rw [List.drop_zero] at this
      rw [List.getElem?_eq_getElem hp] at hb
      injection hb with hb
      rw [hb] at this
      exact this
    refine (md_minus s _ rfl w hs h1 (by rw [e0, h45]; rfl) hgt).mono ?_
    rintro e w' ⟨rfl, I, F, hsp, rfl⟩
    have hsp' := split_cons hsp
    rw [← hl] at hsp'
    refine ⟨ret_ii2 ?_ (by rw [hsp'.dec]), rfl⟩
    rw [hsp'.val]
    unfold sgn
    rw [h45, if_pos (by decide)]
  · rw [if_neg (by rw [hb]; intro h; injection h with h; exact h45 h)] at hg
    refine (md_other s w hs h0 ?_ hg).mono ?_
    · rw [e0]; exact beq_false_of_ne (fun h => h45 (UInt8.toNat_inj.1 (by show b.toNat = 45; omega)))
    · rintro e w' ⟨rfl, I, F, hsp, rfl⟩
      refine ⟨ret_ii2 ?_ (by rw [hsp.dec]), rfl⟩
      rw [hsp.val]
      unfold sgn
      rw [if_neg (fun h => h45 (UInt8.toNat_inj.1 (by show b.toNat = 45; omega)))]
end Go.Proofs.Qxb6602895a
