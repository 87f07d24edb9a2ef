/-
  DERIVED. The walk of 'plain' (18), its closure (22), 'ZZplain' (10).
-/
import Derived.Test.Qxb6602895aProg
import Derived.WalkKit
import Derived.WalkSpells
import Derived.WalkLawsBesides
import Derived.Test.Qxb6602895aPlainC
namespace Go.Proofs.Qxb6602895a
open Go.RowKit
set_option linter.unusedVariables false

def cn (w : World) (b : Nat) : Nat := match w.cell? ⟨b, 0, none⟩ with | some v => (intOf v).toNat | _ => 0
theorem cn_of {w : World} {b : Nat} {k : Nat} (h : w.cell? ⟨b, 0, none⟩ = some (.int .i64 k)) : cn w b = k := by unfold cn; rw [h]; simp [intOf]
theorem ret_int {k : IntKind} {a b : Int} (h : a = b) : Ending.returned (.int k a) = .returned (.int k b) := by rw [h]

theorem some_ne (c b : UInt8) (h : ((b.toNat : Int) == (c.toNat : Int)) = false) : some b ≠ some c := by
  intro e; injection e with e; subst e; simp at h
theorem dig_of (b : UInt8) (h : 48 ≤ (b.toNat : Int)) (h2 : (b.toNat : Int) ≤ 57) : dig b := by unfold dig; omega
theorem not_dig_hi (b : UInt8) (h2 : 57 < (b.toNat : Int)) : ¬ dig b := by unfold dig; omega
theorem not_dig_lo (b : UInt8) (h2 : (b.toNat : Int) < 48) : ¬ dig b := by unfold dig; omega

set_option maxHeartbeats 400000 in
theorem closure_any (s : ByteArray) (i bi bs B : Nat) (w : World) (hs : s.size ≤ 2097152) (hi : i ≤ s.size) (hne : bs ≠ bi) (hB : B ≤ bi)
    (ci : w.cell? ⟨bi, 0, none⟩ = some (.int .i64 i)) (fi : w.frozen? ⟨bi, 0, none⟩ = false) (cs : w.cell? ⟨bs, 0, none⟩ = some (.string s)) :
    Calls Try.prog 22 #[.pointer (some ⟨bi, 0, none⟩), .pointer (some ⟨bs, 0, none⟩)] w fun e w' => ∃ k : Nat, e = .returned (.int .i64 ((k : Int) - i)) ∧ RunTo s.data.toList i k ∧
      w'.cell? ⟨bi, 0, none⟩ = some (.int .i64 k) ∧ w'.frozen? ⟨bi, 0, none⟩ = false ∧ w'.cell? ⟨bs, 0, none⟩ = some (.string s) ∧ Below B w w' := by
  go_enter Try.func22, Try.ntmps22
  go_wp2
  go_loopw [5] (fun _ wr => ∃ k : Nat, i ≤ k ∧ k ≤ s.size ∧ (∀ j, i ≤ j → j < k → D s.data.toList j) ∧
      wr.cell? ⟨bi, 0, none⟩ = some (.int .i64 k) ∧ wr.frozen? ⟨bi, 0, none⟩ = false ∧ wr.cell? ⟨bs, 0, none⟩ = some (.string s) ∧ Below B w wr)
    (fun _ wr => s.size - cn wr bi)
  case atStart => exact ⟨i, Nat.le_refl _, hi, fun j a b => by omega, ci, fi, cs, Below.refl _ _⟩
  case round =>
    clear ci fi cs
    obtain ⟨k, hik, hk, hd, ci, fi, cs, hb⟩ := hrel
    have hlen := len_list s
    by_cases hlt : k < s.size
    · have HA : Hid (s.data.toList[k]? = some s[k]) := at_list s k hlt
      go_wp2
      · have h1 : 48 ≤ (s[k].toNat : Int) := by assumption
        have h2 : (s[k].toNat : Int) ≤ 57 := by assumption
        have c2 : (wr.setCell ⟨bi, 0, none⟩ (.int .i64 ((k : Int) + 1))).cell? ⟨bi, 0, none⟩ = some (.int .i64 ((k + 1 : Nat) : Int)) := World.cell?_setCell_same _ _ _ ci
        have c3 : (wr.setCell ⟨bi, 0, none⟩ (.int .i64 ((k : Int) + 1))).cell? ⟨bs, 0, none⟩ = some (.string s) := by
          rw [World.cell?_setCell_other _ _ _ _ (by intro h; cases h; exact hne rfl)]; exact cs
        go_roundw
        case rel =>
          refine ⟨k + 1, by omega, by omega, fun j a b => ?_, c2, by simpa using fi, c3, hb.setCell hB _⟩
          rcases Nat.lt_or_ge j k with h | h
          · exact hd j a h
          · have : j = k := by omega
            subst this; exact D_of HA.out (dig_of _ h1 h2)
        case measure => rw [cn_of c2, cn_of ci]; omega
      · have h2 : 57 < (s[k].toNat : Int) := by assumption
        go_ret
        exact ⟨k, rfl, ⟨hik, by omega, hd, not_D_of HA.out (not_dig_hi _ h2)⟩, ci, fi, cs, hb⟩
      · have h2 : (s[k].toNat : Int) < 48 := by assumption
        go_ret
        exact ⟨k, rfl, ⟨hik, by omega, hd, not_D_of HA.out (not_dig_lo _ h2)⟩, ci, fi, cs, hb⟩
    · go_wp2
      go_ret
      have hke : k = s.data.toList.length := by omega
      exact ⟨k, rfl, ⟨hik, by omega, hd, hke ▸ not_D_end _⟩, ci, fi, cs, hb⟩

set_option maxHeartbeats 800000 in
theorem plain_minus (s : ByteArray) (w : World) (hs : s.size ≤ 2097152) (h0 : 0 < s.size) (h45 : ((s[0].toNat : Int) == 45) = true) :
    Calls Try.prog 18 #[.string s] w fun e w' => ∃ b : Bool, e = .returned (.bool b) ∧ (b = true ↔ GoodAt s.data.toList 1) ∧ Below w.heap.size w w' := by
  go_enter Try.func18, Try.ntmps18
  go_wp2_with fail
  have c1 : ((w.alloc (Obj.cells #[Value.string s] 9)).alloc (Obj.cells #[Value.int IntKind.i64 1] 3)).cell? ⟨w.heap.size + 1, 0, none⟩ = some (.int .i64 ((1 : Nat) : Int)) := by simp
  have c2 : ((w.alloc (Obj.cells #[Value.string s] 9)).alloc (Obj.cells #[Value.int IntKind.i64 1] 3)).cell? ⟨w.heap.size, 0, none⟩ = some (.string s) := by simp
  have c3 : ((w.alloc (Obj.cells #[Value.string s] 9)).alloc (Obj.cells #[Value.int IntKind.i64 1] 3)).frozen? ⟨w.heap.size + 1, 0, none⟩ = false := by simp
  refine (closure_any s 1 (w.heap.size + 1) w.heap.size w.heap.size _ hs (by omega) (by omega) (by omega) c1 c3 c2).mono ?_
  rintro e w1 ⟨k, rfl, hrun, ci, fi, cs, hb⟩
  clear c1 c2 c3
  have hb1 : Below w.heap.size w w1 := (((Below.refl _ _).alloc (Nat.le_refl _) _).alloc (by simp) _).trans hb
  clear hb
  have hkl := hrun.size
  have hki := hrun.le
  rw [len_list] at hkl
  have HR : Hid (RunTo s.data.toList 1 k) := hrun
  clear hrun
  by_cases hk0 : k = 1
  · go_wp2
    go_ret
    exact ⟨false, rfl, by simp [good_none HR.out hk0], hb1⟩
  · by_cases hks : k < s.size
    · have HA : Hid (s.data.toList[k]? = some s[k]) := at_list s k hks
      by_cases h46 : ((s[k].toNat : Int) == 46) = true
      · go_wp2_with fail
        have d1 : (w1.setCell ⟨w.heap.size + 1, 0, none⟩ (.int .i64 ((k : Int) + 1))).cell? ⟨w.heap.size + 1, 0, none⟩ = some (.int .i64 ((k + 1 : Nat) : Int)) := World.cell?_setCell_same _ _ _ ci
        have d2 : (w1.setCell ⟨w.heap.size + 1, 0, none⟩ (.int .i64 ((k : Int) + 1))).cell? ⟨w.heap.size, 0, none⟩ = some (.string s) := by
          rw [World.cell?_setCell_other _ _ _ _ (by simp)]; exact cs
        have d3 : (w1.setCell ⟨w.heap.size + 1, 0, none⟩ (.int .i64 ((k : Int) + 1))).frozen? ⟨w.heap.size + 1, 0, none⟩ = false := by simpa using fi
        refine (closure_any s (k + 1) (w.heap.size + 1) w.heap.size w.heap.size _ hs (by omega) (by omega) (by omega) d1 d3 d2).mono ?_
        rintro e w2 ⟨k2, rfl, hrun2, ci2, fi2, cs2, hb2⟩
        clear d1 d2 d3
        have hb3 : Below w.heap.size w w2 := (hb1.setCell (by simp) _).trans hb2
        clear hb2
        have hkl2 := hrun2.size
        have hki2 := hrun2.le
        rw [len_list] at hkl2
        have HR2 : Hid (RunTo s.data.toList (k + 1) k2) := hrun2
        clear hrun2
        have HB : Hid (s.data.toList[k]? = some 46) := by
          have e := eq_of_beq h46
          have : s[k] = 46 := UInt8.toNat_inj.1 (by simpa using (by omega : s[k].toNat = 46))
          unfold Hid; rw [HA.out, this]
        by_cases hk2 : k2 = k + 1
        · go_wp2
          go_ret
          exact ⟨false, rfl, by simp [good_point HR.out hk0 HB.out HR2.out, hk2], hb3⟩
        · go_wp2
          go_ret
          refine ⟨_, rfl, ?_, hb3⟩
          rw [good_point HR.out hk0 HB.out HR2.out, len_list]
          simp [hk2]; omega
      · have h46' : ((s[k].toNat : Int) == 46) = false := by simpa using h46
        go_wp2
        go_ret
        refine ⟨_, rfl, ?_, hb1⟩
        rw [good_plain HR.out hk0 (by rw [HA.out]; exact some_ne 46 _ h46'), len_list]
        simp; omega
    · go_wp2
      go_ret
      refine ⟨_, rfl, ?_, hb1⟩
      rw [good_plain HR.out hk0 (by rw [List.getElem?_eq_none (by rw [len_list]; omega)]; simp), len_list]
      simp; omega

set_option maxHeartbeats 800000 in
theorem plain_other (s : ByteArray) (w : World) (hs : s.size ≤ 2097152) (h0 : 0 < s.size) (h45 : ((s[0].toNat : Int) == 45) = false) :
    Calls Try.prog 18 #[.string s] w fun e w' => ∃ b : Bool, e = .returned (.bool b) ∧ (b = true ↔ GoodAt s.data.toList 0) ∧ Below w.heap.size w w' := by
  go_enter Try.func18, Try.ntmps18
  go_wp2_with fail
  have c1 : ((w.alloc (Obj.cells #[Value.string s] 9)).alloc (Obj.cells #[Value.int IntKind.i64 0] 3)).cell? ⟨w.heap.size + 1, 0, none⟩ = some (.int .i64 ((0 : Nat) : Int)) := by simp
  have c2 : ((w.alloc (Obj.cells #[Value.string s] 9)).alloc (Obj.cells #[Value.int IntKind.i64 0] 3)).cell? ⟨w.heap.size, 0, none⟩ = some (.string s) := by simp
  have c3 : ((w.alloc (Obj.cells #[Value.string s] 9)).alloc (Obj.cells #[Value.int IntKind.i64 0] 3)).frozen? ⟨w.heap.size + 1, 0, none⟩ = false := by simp
  refine (closure_any s 0 (w.heap.size + 1) w.heap.size w.heap.size _ hs (by omega) (by omega) (by omega) c1 c3 c2).mono ?_
  rintro e w1 ⟨k, rfl, hrun, ci, fi, cs, hb⟩
  clear c1 c2 c3
  have hb1 : Below w.heap.size w w1 := (((Below.refl _ _).alloc (Nat.le_refl _) _).alloc (by simp) _).trans hb
  clear hb
  have hkl := hrun.size
  have hki := hrun.le
  rw [len_list] at hkl
  have HR : Hid (RunTo s.data.toList 0 k) := hrun
  clear hrun
  by_cases hk0 : k = 0
  · go_wp2
    go_ret
    exact ⟨false, rfl, by simp [good_none HR.out hk0], hb1⟩
  · by_cases hks : k < s.size
    · have HA : Hid (s.data.toList[k]? = some s[k]) := at_list s k hks
      by_cases h46 : ((s[k].toNat : Int) == 46) = true
      · go_wp2_with fail
        have d1 : (w1.setCell ⟨w.heap.size + 1, 0, none⟩ (.int .i64 ((k : Int) + 1))).cell? ⟨w.heap.size + 1, 0, none⟩ = some (.int .i64 ((k + 1 : Nat) : Int)) := World.cell?_setCell_same _ _ _ ci
        have d2 : (w1.setCell ⟨w.heap.size + 1, 0, none⟩ (.int .i64 ((k : Int) + 1))).cell? ⟨w.heap.size, 0, none⟩ = some (.string s) := by
          rw [World.cell?_setCell_other _ _ _ _ (by simp)]; exact cs
        have d3 : (w1.setCell ⟨w.heap.size + 1, 0, none⟩ (.int .i64 ((k : Int) + 1))).frozen? ⟨w.heap.size + 1, 0, none⟩ = false := by simpa using fi
        refine (closure_any s (k + 1) (w.heap.size + 1) w.heap.size w.heap.size _ hs (by omega) (by omega) (by omega) d1 d3 d2).mono ?_
        rintro e w2 ⟨k2, rfl, hrun2, ci2, fi2, cs2, hb2⟩
        clear d1 d2 d3
        have hb3 : Below w.heap.size w w2 := (hb1.setCell (by simp) _).trans hb2
        clear hb2
        have hkl2 := hrun2.size
        have hki2 := hrun2.le
        rw [len_list] at hkl2
        have HR2 : Hid (RunTo s.data.toList (k + 1) k2) := hrun2
        clear hrun2
        have HB : Hid (s.data.toList[k]? = some 46) := by
          have e := eq_of_beq h46
          have : s[k] = 46 := UInt8.toNat_inj.1 (by simpa using (by omega : s[k].toNat = 46))
          unfold Hid; rw [HA.out, this]
        by_cases hk2 : k2 = k + 1
        · go_wp2
          go_ret
          exact ⟨false, rfl, by simp [good_point HR.out hk0 HB.out HR2.out, hk2], hb3⟩
        · go_wp2
          go_ret
          refine ⟨_, rfl, ?_, hb3⟩
          rw [good_point HR.out hk0 HB.out HR2.out, len_list]
          simp [hk2]; omega
      · have h46' : ((s[k].toNat : Int) == 46) = false := by simpa using h46
        go_wp2
        go_ret
        refine ⟨_, rfl, ?_, hb1⟩
        rw [good_plain HR.out hk0 (by rw [HA.out]; exact some_ne 46 _ h46'), len_list]
        simp; omega
    · go_wp2
      go_ret
      refine ⟨_, rfl, ?_, hb1⟩
      rw [good_plain HR.out hk0 (by rw [List.getElem?_eq_none (by rw [len_list]; omega)]; simp), len_list]
      simp; omega

set_option maxHeartbeats 800000 in
theorem plain_empty (s : ByteArray) (w : World) (hs : s.size ≤ 2097152) (h0 : ¬ 0 < s.size) :
    Calls Try.prog 18 #[.string s] w fun e w' => ∃ b : Bool, e = .returned (.bool b) ∧ (b = true ↔ GoodAt s.data.toList 0) ∧ Below w.heap.size w w' := by
  go_enter Try.func18, Try.ntmps18
  go_wp2_with fail
  have c1 : ((w.alloc (Obj.cells #[Value.string s] 9)).alloc (Obj.cells #[Value.int IntKind.i64 0] 3)).cell? ⟨w.heap.size + 1, 0, none⟩ = some (.int .i64 ((0 : Nat) : Int)) := by simp
  have c2 : ((w.alloc (Obj.cells #[Value.string s] 9)).alloc (Obj.cells #[Value.int IntKind.i64 0] 3)).cell? ⟨w.heap.size, 0, none⟩ = some (.string s) := by simp
  have c3 : ((w.alloc (Obj.cells #[Value.string s] 9)).alloc (Obj.cells #[Value.int IntKind.i64 0] 3)).frozen? ⟨w.heap.size + 1, 0, none⟩ = false := by simp
  refine (closure_any s 0 (w.heap.size + 1) w.heap.size w.heap.size _ hs (by omega) (by omega) (by omega) c1 c3 c2).mono ?_
  rintro e w1 ⟨k, rfl, hrun, ci, fi, cs, hb⟩
  clear c1 c2 c3
  have hb1 : Below w.heap.size w w1 := (((Below.refl _ _).alloc (Nat.le_refl _) _).alloc (by simp) _).trans hb
  clear hb
  have hkl := hrun.size
  have hki := hrun.le
  rw [len_list] at hkl
  have HR : Hid (RunTo s.data.toList 0 k) := hrun
  clear hrun
  by_cases hk0 : k = 0
  · go_wp2
    go_ret
    exact ⟨false, rfl, by simp [good_none HR.out hk0], hb1⟩
  · exact absurd (by omega) hk0

theorem plain_any (s : ByteArray) (w : World) (hs : s.size ≤ 2097152) :
    Calls Try.prog 18 #[.string s] w fun e w' => ∃ b : Bool, e = .returned (.bool b) ∧ (b = true ↔ Good s.data.toList) ∧ Below w.heap.size w w' := by
  unfold Good
  by_cases h0 : 0 < s.size
  · have HA := at_list s 0 h0
    by_cases h45 : ((s[0].toNat : Int) == 45) = true
    · have e := eq_of_beq h45
      have : s[0] = 45 := UInt8.toNat_inj.1 (by simpa using (by omega : s[0].toNat = 45))
      rw [if_pos (by rw [HA, this])]
      exact plain_minus s w hs h0 h45
    · rw [if_neg (by rw [HA]; exact some_ne 45 _ (by simpa using h45))]
      exact plain_other s w hs h0 (by simpa using h45)
  · rw [if_neg (by rw [List.getElem?_eq_none (by rw [len_list]; omega)]; simp)]
    exact plain_empty s w hs h0

set_option maxHeartbeats 400000 in
theorem zplain_any (s : ByteArray) (w : World) (hs : s.size ≤ 2097152) :
    Calls Try.prog 10 #[.string s] w fun e w' => ∃ b : Bool, e = .returned (.bool b) ∧ (b = true ↔ Good s.data.toList) ∧ Below w.heap.size w w' := by
  go_enter Try.func10, Try.ntmps10
  go_wp2_with fail
  refine (plain_any s _ hs).mono ?_
  rintro e w1 ⟨b, rfl, hg, hb⟩
  have HG : Hid (b = true ↔ Good s.data.toList) := hg
  clear hg
  go_wp2
  go_ret
  exact ⟨b, rfl, HG.out, hb⟩
end Go.Proofs.Qxb6602895a
