/-
  DERIVED. The walk of 'render' (13).
-/
import Derived.Test.Qxb6602895aProg
import Derived.WalkKit
import Derived.WalkSpells
import Derived.WalkLawsBesides
import Derived.Test.Qxb6602895aPlainB
namespace Go.Proofs.Qxb6602895a
open Go.RowKit
set_option linter.unusedVariables false

theorem Try.info5 : (Try.prog.info? 5).map (fun i => (i.zero, i.size, i.bytes)) = some (some (.int .u8 0), 1, 1) := by kernel_rfl

def bcells (L : List UInt8) : List Value := L.map fun b => Value.int .u8 (b.toNat : Int)
theorem own_shape {w : World} {base : Nat} {e : TypeId} {v : Value} {n : Nat} {xs : List Value} (h : w.ownsRow base e 1 v n xs) : ∃ ao cap, v = .slice ao n cap := by
  rcases h.2 with ⟨rfl, rfl⟩ | ⟨g, cap, cur, rfl, _⟩
  · exact ⟨_, _, rfl⟩
  · exact ⟨_, _, rfl⟩
theorem own_some {w : World} {base : Nat} {e : TypeId} {v : Value} {n : Nat} {xs : List Value} (h : w.ownsRow base e 1 v n xs) (hn : 0 < n) : ∃ g cap, v = .slice (some ⟨g, 0, none⟩) n cap ∧ base ≤ g ∧ g < w.heap.size := by
  rcases h.2 with ⟨rfl, rfl⟩ | ⟨g, cap, cur, rfl, hb, hh, _⟩
  · omega
  · refine ⟨g, cap, rfl, hb, ?_⟩
    rcases Nat.lt_or_ge g w.heap.size with h1 | h1
    · exact h1
    · rw [Array.getElem?_eq_none h1] at hh; cases hh
theorem own_ownBlock {w : World} {base : Nat} {e : TypeId} {v : Value} {n : Nat} {xs : List Value} (h : w.ownsRow base e 1 v n xs) : ∀ k, v.ownBlock = some k → base ≤ k := by
  rcases h.2 with ⟨rfl, rfl⟩ | ⟨g, cap, cur, rfl, hb, hh, _⟩
  · intro k hk; cases hk
  · intro k hk; simp [Value.ownBlock] at hk; omega
theorem own_snoc {w : World} {base n : Nat} {v : Value} {L : List UInt8} {x : Int} (b : UInt8) (hx : x = (b.toNat : Int)) (h : w.ownsRow base 5 1 v n (bcells L ++ [.int .u8 x])) (hn : n = L.length + 1) :
    w.ownsRow base 5 1 v (L ++ [b]).length (bcells (L ++ [b])) := by
  subst hx hn
  simpa [bcells] using h
theorem valLE_done (u n : Nat) (L : List UInt8) (hu : ¬ 0 < u) (h : u * 10 ^ L.length + valLE L = n) : valLE L = n := by
  have : u = 0 := by omega
  subst this; omega
theorem neg_u64 (c : Int) (h : c < 0) (h2 : -9223372036854775808 ≤ c) : Value.int .u64 (IntKind.u64.wrap (-IntKind.u64.wrap c)) = .int .u64 ((-c).toNat : Int) := by
  rw [IntKind.wrap_u64, IntKind.wrap_u64]
  congr 1; omega
theorem add_at (g j : Nat) : (⟨g, 0, none⟩ : Addr).add j = ⟨g, j, none⟩ := by cases j <;> simp [Addr.add]
def slen : Value → Nat
  | .slice _ n _ => n
  | _ => 0

set_option maxHeartbeats 400000 in
theorem render_pos (c : Int) (K : Nat) (w : World) (hc : 0 ≤ c) (hc2 : c ≤ 9223372036854775807) (hK : K ≤ 65536) :
    Calls Try.prog 13 #[.int .i64 c, .int .i64 K] w fun e w' => ∃ s L, e = .returned (.string s) ∧ Rend false c.toNat K s.data.toList L ∧ Below w.heap.size w w' := by
  obtain ⟨i0, hi, hz0, hz1, hz2⟩ := info_parts Try.info5
  go_enter Try.func13, Try.ntmps13
  go_wp2
  go_loopw [6, 7] (fun u v wr => ∃ (U : Nat) (L : List UInt8), u = .int .u64 U ∧ U ≤ 9223372036854775808 ∧ U * 10 ^ L.length + valLE L = c.toNat ∧ L.length ≤ 20 ∧ (∀ x ∈ L, dig x) ∧ wr.ownsRow w.heap.size 5 1 v L.length (bcells L) ∧ Below w.heap.size w wr)
    (fun u _ _ => (intOf u).toNat)
  case atStart => exact ⟨c.toNat, [], by go_num, by omega, by simp [valLE], by simp, by simp, World.ownsRow_nil _ _ _ _, Below.refl _ _⟩
  case round =>
    obtain ⟨U, L, rfl, hU63, hval, hlen, hdig, hown, hbel⟩ := hrel
    have HV : Hid (U * 10 ^ L.length + valLE L = c.toNat) := hval
    clear hval
    obtain ⟨ao, cap, rfl⟩ := own_shape hown
    by_cases hU : 0 < U
    · have h19 := valLE_short U _ L HV.out hU (by omega)
      go_wp2_with (at_builtin; refine wpList_append_own _ rfl (.tmp 19) (.tmp 24) 29 rfl w.heap.size 5 i0 (.int .u8 0) 1 1 Try.underlying29 hi hz0 hz1 hz2 rfl (by decide) _ _ _ rfl (hown.alloc _) ⟨wr.heap.size, 0, none⟩ 1 1 [.int .u8 (48 + (U : Int) % 10)] rfl rfl (cell_one_new _ _ _) ?c2 ?c3 ?c4 ?c5 ?_)
      case c2 => intro u hu; simp at hu; subst hu; rfl
      case c3 => unfold maxLen; omega
      case c4 => omega
      case c5 => have := hbel.size; simp; omega
      intro v' w1 hown' hgrow _
      have hb1 : Below w.heap.size w w1 := (hbel.alloc hbel.size _).grown hgrow (by have := hbel.size; simp; omega) (own_ownBlock hown)
      have hown1 := own_snoc (UInt8.ofNat (48 + U % 10)) (by rw [toNat_ofNat_dig]; omega) hown' rfl
      clear hown' hgrow hown
      go_wp2
      go_roundw
      case rel => exact ⟨U / 10, _, by go_num, by omega, valLE_step _ _ _ HV.out, by simp; omega, dig_snoc hdig (dig_of_step U), hown1, hb1⟩
      case measure => simp [intOf]; omega
    · have HV2 : Hid (valLE L = c.toNat) := valLE_done U _ L hU HV.out
      clear HV
      go_wp2
      obtain ⟨w1, rfl⟩ : ∃ w1 : World, w1 = wr := ⟨_, rfl⟩
      go_loopw [7] (fun v wr => ∃ L : List UInt8, valLE L = c.toNat ∧ L.length ≤ 70000 ∧ (∀ x ∈ L, dig x) ∧ wr.ownsRow w.heap.size 5 1 v L.length (bcells L) ∧ Below w.heap.size w wr)
        (fun v _ => 70000 - slen v)
      case atStart => exact ⟨L, HV2.out, by omega, hdig, hown, hbel⟩
      case round =>
        clear hown hbel hdig hlen HV2
        obtain ⟨L, hval, hlen, hdig, hown, hbel⟩ := hrel
        have HV : Hid (valLE L = c.toNat) := hval
        clear hval
        obtain ⟨ao, cap, rfl⟩ := own_shape hown
        by_cases hL : L.length < K + 1
        · go_wp2_with (at_builtin; refine wpList_append_own _ rfl (.tmp 33) (.tmp 34) 29 rfl w.heap.size 5 i0 (.int .u8 0) 1 1 Try.underlying29 hi hz0 hz1 hz2 rfl (by decide) _ _ _ rfl (hown.alloc _) ⟨wr.heap.size, 0, none⟩ 1 1 [.int .u8 48] rfl rfl (cell_one_new _ _ _) ?d2 ?d3 ?d4 ?d5 ?_)
          case d2 => intro u hu; simp at hu; subst hu; rfl
          case d3 => unfold maxLen; omega
          case d4 => omega
          case d5 => have := hbel.size; simp; omega
          intro v' w2 hown' hgrow _
          have hb1 : Below w.heap.size w w2 := (hbel.alloc hbel.size _).grown hgrow (by have := hbel.size; simp; omega) (own_ownBlock hown)
          have hown1 := own_snoc 48 rfl hown' rfl
          obtain ⟨ao', cap', hv'⟩ := own_shape hown1
          clear hown' hgrow hown
          subst hv'
          go_wp2
          go_roundw
          case rel => exact ⟨_, valLE_zero _ _ HV.out, by simp; omega, dig_snoc hdig ⟨by decide, by decide⟩, hown1, hb1⟩
          case measure => simp [slen]; omega
        · have hKL : K < L.length := by omega
          clear hL
          obtain ⟨w2, rfl⟩ : ∃ w2 : World, w2 = wr := ⟨_, rfl⟩
          have hsz := hbel.size
          go_wp2_with (at_make; refine wpList_make_own _ rfl _ _ 29 rfl w2.heap.size 5 i0 (.int .u8 0) 1 Try.underlying29 hi hz0 hz1 _ _ _ (L.length + 2) rfl rfl (by omega) ?m2 ?m3 (Nat.le_refl _) ?_)
          case m2 => rw [hz2]; omega
          case m3 => unfold maxLen; omega
          intro w3 hown3 hgrow3
          have hb3 : Below w2.heap.size w2 w3 := (Below.refl _ _).grown hgrow3 (Nat.le_refl _) (fun k h => by cases h)
          clear hgrow3
          go_wp2
          obtain ⟨g, cap1, hv1, hg0, hg⟩ := own_some hown (by omega)
          obtain ⟨rfl, rfl⟩ : ao = some ⟨g, 0, none⟩ ∧ cap = cap1 := by simpa using hv1
          go_loopw [8, 9] (fun v j wr => ∃ m : Nat, m ≤ L.length ∧ j = .int .i64 ((m : Int) - 1) ∧ wr.ownsRow w2.heap.size 5 1 v (outB [] L K m).length (bcells (outB [] L K m)) ∧ Below w2.heap.size w2 wr)
            (fun _ j _ => (intOf j + 1).toNat)
          case atStart => exact ⟨L.length, Nat.le_refl _, rfl, by rw [outB_start _ _ _ hKL]; exact hown3, hb3⟩
          case round =>
            clear hown3 hb3
            obtain ⟨m, hm, rfl, hown3, hb3⟩ := hrel
            have hol := outB_len [] L K m
            have hsz3 := hb3.size
            simp only [List.length_nil, Nat.zero_add] at hol
            cases m with
            | zero =>
              have hlen0 : 0 < (outB [] L K 0).length := (rend_len (neg := false) ⟨hdig, HV.out, hKL, hlen, rfl⟩).1
              obtain ⟨go, capo, hvo, hgo, hgo2⟩ := own_some hown3 hlen0
              have hkc := run_convert_bytes_back (P := Try.prog) wr 29 9 5 ⟨go, 0, none⟩ capo (outB [] L K 0) Try.underlying29 Try.underlying5 Try.underlying9 (fun j hj => by
                subst hvo
                have := hown3.cellAt j (by omega)
                rw [add_at, this]
                simp [bcells, List.getElem?_eq_getElem hj])
              rw [hvo]
              go_wp2
              go_ret
              exact ⟨_, L, rfl, ⟨hdig, HV.out, hKL, hlen, by simp⟩, hbel.trans (hb3.mono hsz)⟩
            | succ j =>
              rw [show (((j + 1 : Nat) : Int) - 1) = (j : Int) from by omega]
              have hcell : wr.cell? ⟨g, j, none⟩ = some (.int .u8 (L[j].toNat : Int)) := by
                rw [hb3.cell (p := ⟨g, j, none⟩) hg, hown.cellAt j (by omega)]
                simp [bcells, List.getElem?_eq_getElem (show j < L.length by omega)]
              go_wp2_with (at_builtin; refine wpList_append_own _ rfl (.tmp 51) (.tmp 56) 29 rfl w2.heap.size 5 i0 (.int .u8 0) 1 1 Try.underlying29 hi hz0 hz1 hz2 rfl (by decide) _ _ _ rfl (hown3.alloc _) ⟨wr.heap.size, 0, none⟩ 1 1 [.int .u8 (L[j].toNat : Int)] rfl rfl (cell_one_new _ _ _) ?e2 ?e3 ?e4 ?e5 ?_)
              case e2 => intro u hu; simp at hu; subst hu; rfl
              case e3 => unfold maxLen; omega
              case e4 => omega
              case e5 => simp; omega
              intro v' w4 hown' hgrow _
              have hb4 : Below w2.heap.size w2 w4 := (hb3.alloc hb3.size _).grown hgrow (by simp; omega) (own_ownBlock hown3)
              have hown4 := own_snoc L[j] rfl hown' rfl
              clear hown' hgrow hown3 hcell
              by_cases hjK : j = K ∧ 0 < K
              · obtain ⟨rfl, hpos⟩ := hjK
                have hol4 : (outB [] L j (j + 1) ++ [L[j]]).length ≤ L.length + 2 := by simp; omega
                have hsz4 := hb4.size
                go_wp2_with (at_builtin; refine wpList_append_own _ rfl (.tmp 65) (.tmp 66) 29 rfl w2.heap.size 5 i0 (.int .u8 0) 1 1 Try.underlying29 hi hz0 hz1 hz2 rfl (by decide) _ _ _ rfl (hown4.alloc _) ⟨w4.heap.size, 0, none⟩ 1 1 [.int .u8 46] rfl rfl (cell_one_new _ _ _) ?f2 ?f3 ?f4 ?f5 ?_)
                case f2 => intro u hu; simp at hu; subst hu; rfl
                case f3 => unfold maxLen; omega
                case f4 => omega
                case f5 => simp; omega
                intro v5 w5 hown' hgrow _
                have hb5 : Below w2.heap.size w2 w5 := (hb4.alloc hb4.size _).grown hgrow (by simp; omega) (own_ownBlock hown4)
                have hown5 := own_snoc 46 rfl hown' (by simp)
                rw [← outB_point [] L j (by omega) hpos] at hown5
                clear hown' hgrow hown4
                go_wp2
                go_roundw
                case rel => exact ⟨j, by omega, rfl, hown5, hb5⟩
                case measure => simp [intOf]
              · rw [← outB_digit [] L K j (by omega) (by omega) hjK] at hown4
                by_cases hj2 : j = K
                · have hK0 : ¬ 0 < K := fun h => hjK ⟨hj2, h⟩
                  have hj3 : ((j : Int) == (K : Int)) = true := by simp [hj2]
                  have hK1 : decide ((0 : Int) < (K : Int)) = false := by simp; omega
                  clear hj2 hjK
                  go_wp2
                  go_roundw
                  case rel => exact ⟨j, by omega, rfl, hown4, hb4⟩
                  case measure => simp [intOf]
                · go_wp2
                  go_roundw
                  case rel => exact ⟨j, by omega, rfl, hown4, hb4⟩
                  case measure => simp [intOf]
set_option maxHeartbeats 400000 in
theorem render_neg (c : Int) (K : Nat) (w : World) (hc : c < 0) (hc2 : -9223372036854775808 ≤ c) (hK : K ≤ 65536) :
    Calls Try.prog 13 #[.int .i64 c, .int .i64 K] w fun e w' => ∃ s L, e = .returned (.string s) ∧ Rend true (-c).toNat K s.data.toList L ∧ Below w.heap.size w w' := by
  obtain ⟨i0, hi, hz0, hz1, hz2⟩ := info_parts Try.info5
  go_enter Try.func13, Try.ntmps13
  go_wp2
  go_loopw [6, 7] (fun u v wr => ∃ (U : Nat) (L : List UInt8), u = .int .u64 U ∧ U ≤ 9223372036854775808 ∧ U * 10 ^ L.length + valLE L = (-c).toNat ∧ L.length ≤ 20 ∧ (∀ x ∈ L, dig x) ∧ wr.ownsRow w.heap.size 5 1 v L.length (bcells L) ∧ Below w.heap.size w wr)
    (fun u _ _ => (intOf u).toNat)
  case atStart => exact ⟨(-c).toNat, [], neg_u64 c hc hc2, by omega, by simp [valLE], by simp, by simp, World.ownsRow_nil _ _ _ _, Below.refl _ _⟩
  case round =>
    obtain ⟨U, L, rfl, hU63, hval, hlen, hdig, hown, hbel⟩ := hrel
    have HV : Hid (U * 10 ^ L.length + valLE L = (-c).toNat) := hval
    clear hval
    obtain ⟨ao, cap, rfl⟩ := own_shape hown
    by_cases hU : 0 < U
    · have h19 := valLE_short U _ L HV.out hU (by omega)
      go_wp2_with (at_builtin; refine wpList_append_own _ rfl (.tmp 19) (.tmp 24) 29 rfl w.heap.size 5 i0 (.int .u8 0) 1 1 Try.underlying29 hi hz0 hz1 hz2 rfl (by decide) _ _ _ rfl (hown.alloc _) ⟨wr.heap.size, 0, none⟩ 1 1 [.int .u8 (48 + (U : Int) % 10)] rfl rfl (cell_one_new _ _ _) ?c2 ?c3 ?c4 ?c5 ?_)
      case c2 => intro u hu; simp at hu; subst hu; rfl
      case c3 => unfold maxLen; omega
      case c4 => omega
      case c5 => have := hbel.size; simp; omega
      intro v' w1 hown' hgrow _
      have hb1 : Below w.heap.size w w1 := (hbel.alloc hbel.size _).grown hgrow (by have := hbel.size; simp; omega) (own_ownBlock hown)
      have hown1 := own_snoc (UInt8.ofNat (48 + U % 10)) (by rw [toNat_ofNat_dig]; omega) hown' rfl
      clear hown' hgrow hown
      go_wp2
      go_roundw
      case rel => exact ⟨U / 10, _, by go_num, by omega, valLE_step _ _ _ HV.out, by simp; omega, dig_snoc hdig (dig_of_step U), hown1, hb1⟩
      case measure => simp [intOf]; omega
    · have HV2 : Hid (valLE L = (-c).toNat) := valLE_done U _ L hU HV.out
      clear HV
      go_wp2
      obtain ⟨w1, rfl⟩ : ∃ w1 : World, w1 = wr := ⟨_, rfl⟩
      go_loopw [7] (fun v wr => ∃ L : List UInt8, valLE L = (-c).toNat ∧ L.length ≤ 70000 ∧ (∀ x ∈ L, dig x) ∧ wr.ownsRow w.heap.size 5 1 v L.length (bcells L) ∧ Below w.heap.size w wr)
        (fun v _ => 70000 - slen v)
      case atStart => exact ⟨L, HV2.out, by omega, hdig, hown, hbel⟩
      case round =>
        clear hown hbel hdig hlen HV2
        obtain ⟨L, hval, hlen, hdig, hown, hbel⟩ := hrel
        have HV : Hid (valLE L = (-c).toNat) := hval
        clear hval
        obtain ⟨ao, cap, rfl⟩ := own_shape hown
        by_cases hL : L.length < K + 1
        · go_wp2_with (at_builtin; refine wpList_append_own _ rfl (.tmp 33) (.tmp 34) 29 rfl w.heap.size 5 i0 (.int .u8 0) 1 1 Try.underlying29 hi hz0 hz1 hz2 rfl (by decide) _ _ _ rfl (hown.alloc _) ⟨wr.heap.size, 0, none⟩ 1 1 [.int .u8 48] rfl rfl (cell_one_new _ _ _) ?d2 ?d3 ?d4 ?d5 ?_)
          case d2 => intro u hu; simp at hu; subst hu; rfl
          case d3 => unfold maxLen; omega
          case d4 => omega
          case d5 => have := hbel.size; simp; omega
          intro v' w2 hown' hgrow _
          have hb1 : Below w.heap.size w w2 := (hbel.alloc hbel.size _).grown hgrow (by have := hbel.size; simp; omega) (own_ownBlock hown)
          have hown1 := own_snoc 48 rfl hown' rfl
          obtain ⟨ao', cap', hv'⟩ := own_shape hown1
          clear hown' hgrow hown
          subst hv'
          go_wp2
          go_roundw
          case rel => exact ⟨_, valLE_zero _ _ HV.out, by simp; omega, dig_snoc hdig ⟨by decide, by decide⟩, hown1, hb1⟩
          case measure => simp [slen]; omega
        · have hKL : K < L.length := by omega
          clear hL
          obtain ⟨w2, rfl⟩ : ∃ w2 : World, w2 = wr := ⟨_, rfl⟩
          have hsz := hbel.size
          go_wp2_with (at_make; refine wpList_make_own _ rfl _ _ 29 rfl w2.heap.size 5 i0 (.int .u8 0) 1 Try.underlying29 hi hz0 hz1 _ _ _ (L.length + 2) rfl rfl (by omega) ?m2 ?m3 (Nat.le_refl _) ?_)
          case m2 => rw [hz2]; omega
          case m3 => unfold maxLen; omega
          intro w3 hown3 hgrow3
          have hb3 : Below w2.heap.size w2 w3 := (Below.refl _ _).grown hgrow3 (Nat.le_refl _) (fun k h => by cases h)
          clear hgrow3
          have hsz3 := hb3.size
          go_wp2_with (at_builtin; refine wpList_append_own _ rfl (.tmp 41) (.tmp 42) 29 rfl w2.heap.size 5 i0 (.int .u8 0) 1 1 Try.underlying29 hi hz0 hz1 hz2 rfl (by decide) _ _ _ rfl (hown3.alloc _) ⟨w3.heap.size, 0, none⟩ 1 1 [.int .u8 45] rfl rfl (cell_one_new _ _ _) ?s2 ?s3 ?s4 ?s5 ?_)
          case s2 => intro u hu; simp at hu; subst hu; rfl
          case s3 => unfold maxLen; omega
          case s4 => omega
          case s5 => simp; omega
          intro vs ws hown' hgrow _
          have hbs : Below w2.heap.size w2 ws := (hb3.alloc hb3.size _).grown hgrow (by simp; omega) (own_ownBlock hown3)
          have howns := own_snoc (L := []) 45 rfl hown' rfl
          clear hown' hgrow hown3 hb3 hsz3
          go_wp2
          obtain ⟨g, cap1, hv1, hg0, hg⟩ := own_some hown (by omega)
          obtain ⟨rfl, rfl⟩ : ao = some ⟨g, 0, none⟩ ∧ cap = cap1 := by simpa using hv1
          go_loopw [8, 9] (fun v j wr => ∃ m : Nat, m ≤ L.length ∧ j = .int .i64 ((m : Int) - 1) ∧ wr.ownsRow w2.heap.size 5 1 v (outB [45] L K m).length (bcells (outB [45] L K m)) ∧ Below w2.heap.size w2 wr)
            (fun _ j _ => (intOf j + 1).toNat)
          case atStart => exact ⟨L.length, Nat.le_refl _, rfl, by rw [outB_start _ _ _ hKL]; exact howns, hbs⟩
          case round =>
            clear howns hbs
            obtain ⟨m, hm, rfl, hown3, hb3⟩ := hrel
            have hol := outB_len [45] L K m
            have hsz3 := hb3.size
            simp only [List.length_cons, List.length_nil, Nat.zero_add] at hol
            cases m with
            | zero =>
              have hlen0 : 0 < (outB [45] L K 0).length := (rend_len (neg := true) ⟨hdig, HV.out, hKL, hlen, rfl⟩).1
              obtain ⟨go, capo, hvo, hgo, hgo2⟩ := own_some hown3 hlen0
              have hkc := run_convert_bytes_back (P := Try.prog) wr 29 9 5 ⟨go, 0, none⟩ capo (outB [45] L K 0) Try.underlying29 Try.underlying5 Try.underlying9 (fun j hj => by
                subst hvo
                have := hown3.cellAt j (by omega)
                rw [add_at, this]
                simp [bcells, List.getElem?_eq_getElem hj])
              rw [hvo]
              go_wp2
              go_ret
              exact ⟨_, L, rfl, ⟨hdig, HV.out, hKL, hlen, by simp⟩, hbel.trans (hb3.mono hsz)⟩
            | succ j =>
              rw [show (((j + 1 : Nat) : Int) - 1) = (j : Int) from by omega]
              have hcell : wr.cell? ⟨g, j, none⟩ = some (.int .u8 (L[j].toNat : Int)) := by
                rw [hb3.cell (p := ⟨g, j, none⟩) hg, hown.cellAt j (by omega)]
                simp [bcells, List.getElem?_eq_getElem (show j < L.length by omega)]
              go_wp2_with (at_builtin; refine wpList_append_own _ rfl (.tmp 51) (.tmp 56) 29 rfl w2.heap.size 5 i0 (.int .u8 0) 1 1 Try.underlying29 hi hz0 hz1 hz2 rfl (by decide) _ _ _ rfl (hown3.alloc _) ⟨wr.heap.size, 0, none⟩ 1 1 [.int .u8 (L[j].toNat : Int)] rfl rfl (cell_one_new _ _ _) ?e2 ?e3 ?e4 ?e5 ?_)
              case e2 => intro u hu; simp at hu; subst hu; rfl
              case e3 => unfold maxLen; omega
              case e4 => omega
              case e5 => simp; omega
              intro v' w4 hown' hgrow _
              have hb4 : Below w2.heap.size w2 w4 := (hb3.alloc hb3.size _).grown hgrow (by simp; omega) (own_ownBlock hown3)
              have hown4 := own_snoc L[j] rfl hown' rfl
              clear hown' hgrow hown3 hcell
              by_cases hjK : j = K ∧ 0 < K
              · obtain ⟨rfl, hpos⟩ := hjK
                have hol4 : (outB [45] L j (j + 1) ++ [L[j]]).length ≤ L.length + 3 := by simp; omega
                have hsz4 := hb4.size
                go_wp2_with (at_builtin; refine wpList_append_own _ rfl (.tmp 65) (.tmp 66) 29 rfl w2.heap.size 5 i0 (.int .u8 0) 1 1 Try.underlying29 hi hz0 hz1 hz2 rfl (by decide) _ _ _ rfl (hown4.alloc _) ⟨w4.heap.size, 0, none⟩ 1 1 [.int .u8 46] rfl rfl (cell_one_new _ _ _) ?f2 ?f3 ?f4 ?f5 ?_)
                case f2 => intro u hu; simp at hu; subst hu; rfl
                case f3 => unfold maxLen; omega
                case f4 => omega
                case f5 => simp; omega
                intro v5 w5 hown' hgrow _
                have hb5 : Below w2.heap.size w2 w5 := (hb4.alloc hb4.size _).grown hgrow (by simp; omega) (own_ownBlock hown4)
                have hown5 := own_snoc 46 rfl hown' (by simp)
                rw [← outB_point [45] L j (by omega) hpos] at hown5
                clear hown' hgrow hown4
                go_wp2
                go_roundw
                case rel => exact ⟨j, by omega, rfl, hown5, hb5⟩
                case measure => simp [intOf]
              · rw [← outB_digit [45] L K j (by omega) (by omega) hjK] at hown4
                by_cases hj2 : j = K
                · have hK0 : ¬ 0 < K := fun h => hjK ⟨hj2, h⟩
                  have hj3 : ((j : Int) == (K : Int)) = true := by simp [hj2]
                  have hK1 : decide ((0 : Int) < (K : Int)) = false := by simp; omega
                  clear hj2 hjK
                  go_wp2
                  go_roundw
                  case rel => exact ⟨j, by omega, rfl, hown4, hb4⟩
                  case measure => simp [intOf]
                · go_wp2
                  go_roundw
                  case rel => exact ⟨j, by omega, rfl, hown4, hb4⟩
                  case measure => simp [intOf]
end Go.Proofs.Qxb6602895a
