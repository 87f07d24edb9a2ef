/-
  DERIVED. The walk of 'treeSize' (18), 'ZZTreeSize' (13).
-/
import Derived.Test.Qxb6603613aTree
import Derived.Deep.QuietTactic
import Derived.BigQuiet
namespace Go.Proofs.Qxb6603613a
open Go.RowKit
set_option linter.unusedVariables false

set_option maxHeartbeats 400000 in
theorem size_any (L : Nat) : ∀ (f : Nat) (v : Value) (n c : Nat) (w : World), Dst w L f v n c → n ≤ 1099511627776 → c ≤ 1099511627776 →
    Calls Try.prog 18 #[v] w fun e w' => e = .returned (.tuple #[.int .i64 n, .int .i64 c]) ∧ ∃ m, w' = w.drewN m := by
  intro f
  induction f with
  | zero => intro v n c w h; exact h.elim
  | succ f ih =>
    intro v n c w h hn hc
    obtain ⟨b, ro, rl, rc, so, sl, V, N, C, rfl, hL, c4, c2, hk, hd, hN, hC⟩ := h
    have HN : Hid (n = 1 + sumTo N sl) := hN
    have HC : Hid (c = rl + sumTo C sl) := hC
    have IH : Hid (∀ (v : Value) (n c : Nat) (w : World), Dst w L f v n c → n ≤ 1099511627776 → c ≤ 1099511627776 → Calls Try.prog 18 #[v] w fun e w' => e = .returned (.tuple #[.int .i64 n, .int .i64 c]) ∧ ∃ m, w' = w.drewN m) := ih
    clear hN hC ih
    go_enter Try.func18, Try.ntmps18
    go_wp2
    go_quiet (fail)
    go_wp2
    have hsl : sl ≤ 1099511627776 := by have := sumTo_ge N sl (fun j hj => dst_pos (hd j hj)); have := HN.out; omega
    go_loopw [2, 3, 18] (fun x y i wr => ∃ k m : Nat, k ≤ sl ∧ i = .int .i64 k ∧ x = .int .i64 ((1 + sumTo N k : Nat) : Int) ∧ y = .int .i64 ((rl + sumTo C k : Nat) : Int) ∧ wr = w.drewN m) (fun _ _ i _ => sl - (intOf i).toNat)
    case atStart => exact ⟨0, nq, Nat.zero_le _, rfl, rfl, rfl, rfl⟩
    case round =>
      obtain ⟨k, m, hkl, rfl, rfl, rfl, rfl⟩ := hrel
      by_cases hlt : k < sl
      · obtain ⟨g, rfl, hg, hkc⟩ : ∃ g, so = some ⟨g, 0, none⟩ ∧ L ≤ g ∧ ∀ j, j < sl → w.cell? ⟨g, j, none⟩ = some (V j) := hk.resolve_left (by omega)
        have hck := hkc k hlt
        have hdk := hd k hlt
        have b1 := sumTo_one N k sl hlt
        have b2 := sumTo_one C k sl hlt
        have hnk : 1 + sumTo N k + N k ≤ 1099511627776 := by have := HN.out; omega
        have hckb : rl + sumTo C k + C k ≤ 1099511627776 := by have := HC.out; omega
        have HD : Hid (Dst (w.drewN m) L f (V k) (N k) (C k)) := dst_carry (fun _ _ _ => by rw [World.heap_drewN]) _ _ _ _ hdk
        have e1 := sumTo_succ N k
        have e2 := sumTo_succ C k
        have E1 : Hid _ := e1
        have E2 : Hid _ := e2
        clear hkc hdk b1 b2 hk hd e1 e2
        obtain ⟨vk, hvk⟩ : ∃ vk, vk = V k := ⟨_, rfl⟩
        rw [← hvk] at hck HD
        clear hvk
        go_wp2_with fail
        refine (IH.out vk (N k) (C k) _ HD.out (by omega) (by omega)).mono ?_
        rintro e w2 ⟨rfl, m2, rfl⟩
        rw [World.drewN_drewN]
        go_wp2
        go_roundw
        case rel => exact ⟨k + 1, m + m2, by omega, by go_num, by rw [E1.out]; go_num, by rw [E2.out]; go_num, rfl⟩
        case measure => simp [intOf]; omega
      · have hke : k = sl := by omega
        subst hke
        rw [← HN.out, ← HC.out]
        go_wp2
        go_ret2
        exact ⟨rfl, m, rfl⟩

set_option maxHeartbeats 400000 in
theorem zsize_any (L f : Nat) (v : Value) (n c : Nat) (w : World) (h : Dst w L f v n c) (hn : n ≤ 1099511627776) (hc : c ≤ 1099511627776) :
    Calls Try.prog 13 #[v] w fun e w' => e = .returned (.tuple #[.int .i64 n, .int .i64 c]) ∧ ∃ m, w' = w.drewN m := by
  have HD : Hid (Dst w L f v n c) := h
  clear h
  go_enter Try.func13, Try.ntmps13
  go_wp2_with fail
  refine (size_any L f v n c _ HD.out hn hc).mono ?_
  rintro e w2 ⟨rfl, m2, rfl⟩
  go_wp2
  go_ret2
  exact ⟨rfl, m2, rfl⟩
end Go.Proofs.Qxb6603613a
