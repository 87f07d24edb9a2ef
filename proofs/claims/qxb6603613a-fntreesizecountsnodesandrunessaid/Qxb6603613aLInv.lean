/-
  DERIVED. What the building loop keeps, step by step. No walk here.
-/
import Derived.Test.Qxb6603613aBud
namespace Go.Proofs.Qxb6603613a
open Go.RowKit
set_option linter.unusedVariables false

theorem own_carry {w w' : World} {base : Nat} {e : TypeId} {g n cap : Nat} {xs : List Value} (h : w.ownsRow base e 1 (.slice (some ⟨g, 0, none⟩) n cap) n xs) (hb : w'.heap[g]? = w.heap[g]?) :
    w'.ownsRow base e 1 (.slice (some ⟨g, 0, none⟩) n cap) n xs := by
  refine ⟨h.1, ?_⟩
  rcases h.2 with ⟨h1, _⟩ | ⟨g', cap', cur, h1, h2, h3, h4⟩
  · cases h1
  · cases h1
    exact Or.inr ⟨g, cap, cur, rfl, h2, by rw [hb]; exact h3, h4⟩

def upd (N : Nat → Nat) (i x : Nat) : Nat → Nat := fun j => if j = i then x else N j
theorem upd_same (N : Nat → Nat) (i x : Nat) : upd N i x i = x := by simp [upd]
theorem upd_other (N : Nat → Nat) (i x j : Nat) (h : j ≠ i) : upd N i x j = N j := by simp [upd, h]
theorem sumTo_upd (N : Nat → Nat) (i x : Nat) : sumTo (upd N i x) (i + 1) = sumTo N i + x := by
  rw [sumTo_succ, upd_same, sumTo_congr i (fun j hj => upd_other N i x j (by omega))]

structure LInv (w wr : World) (B bb b0 g f n r : Nat) (ro : Option Addr) (rl rc sl : Nat) (V : Nat → Value) (i : Nat) (N C : Nat → Nat) : Prop where
  kept : Kept bb w wr
  bud : ∃ s' : Nat, s' ≤ 32768 ∧ Bud wr bb ((n + 1 + sumTo N i : Nat) : Int) ((r + rl + sumTo C i : Nat) : Int) (s' : Int) true
  nb : n + 1 + sumTo N i ≤ 32768
  rb : r + rl + sumTo C i ≤ 131072
  re : ReAt wr b0 18 (.slice (some ⟨g, 0, none⟩) sl sl) (.slice ro rl rc)
  own : ∃ xs, wr.ownsRow (b0 + 1) 38 1 (.slice (some ⟨g, 0, none⟩) sl sl) sl xs ∧ ∀ j, j < i → ∃ v, xs[j]? = some v ∧ Dst wr (g + 1) f v (N j) (C j)
  cnt : ∀ j, j < i → Cnt w B f (V j) (N j) (C j)
  gl : g < wr.heap.size

theorem kept_grown {bb : Nat} {a b c : World} (h : Kept bb a b) (hg : b.grownBy c none) : Kept bb a c :=
  h.trans ⟨hg.os, hg.tape, hg.output, hg.size, fun k hk _ => hg.block k hk (by simp)⟩
theorem own_lt {w : World} {base : Nat} {e : TypeId} {g n cap : Nat} {xs : List Value} (h : w.ownsRow base e 1 (.slice (some ⟨g, 0, none⟩) n cap) n xs) : g < w.heap.size := by
  rcases h.2 with ⟨h1, _⟩ | ⟨g', cap', cur, h1, h2, h3, h4⟩
  · cases h1
  · cases h1
    rcases Nat.lt_or_ge g w.heap.size with h5 | h5
    · exact h5
    · rw [Array.getElem?_eq_none h5] at h3; cases h3

theorem linv_start {w w4 w5 : World} {B bb b0 g f n r s : Nat} {ro : Option Addr} {rl rc sl : Nat} {V : Nat → Value} {xs : List Value} (hbb : bb < w.heap.size) (hb0 : w.heap.size ≤ b0) (hg : b0 < g) (hz : w4.heap.size = b0 + 1)
    (hk : Kept bb w w4) (hb : Bud w4 bb ((n : Int) + 1) ((r : Int) + (rl : Int)) ((s : Int) + (sl : Int)) true) (hr : ReAt w4 b0 3 (.slice none 0 0) (.slice ro rl rc)) (hn : n + 1 ≤ 32768) (hrr : r + rl ≤ 131072) (hs : s + sl ≤ 32768)
    (hgrow : (w4.setCell ⟨b0, 0, none⟩ (.int .u8 18)).grownBy w5 none) (hown : w5.ownsRow (b0 + 1) 38 1 (.slice (some ⟨g, 0, none⟩) sl sl) sl xs) :
    LInv w (w5.setCell ⟨b0, 2, none⟩ (.slice (some ⟨g, 0, none⟩) sl sl)) B bb b0 g f n r ro rl rc sl V 0 (fun _ => 0) (fun _ => 0) := by
  have hsz : (w4.setCell ⟨b0, 0, none⟩ (.int .u8 18)).heap.size = b0 + 1 := by rw [← hz]; simp [World.setCell]
  have hk4 : Kept bb w (w4.setCell ⟨b0, 0, none⟩ (.int .u8 18)) := hk.setNew hb0 _
  have hb4 : Bud (w4.setCell ⟨b0, 0, none⟩ (.int .u8 18)) bb ((n : Int) + 1) ((r : Int) + (rl : Int)) ((s : Int) + (sl : Int)) true := hb.block (Below.heap_setCell _ _ _ _ (by show bb ≠ b0; omega))
  have hb5 : Bud w5 bb ((n : Int) + 1) ((r : Int) + (rl : Int)) ((s : Int) + (sl : Int)) true := hb4.block (hgrow.block bb (by omega) (by simp))
  have hr5 : ReAt w5 b0 18 (.slice none 0 0) (.slice ro rl rc) := (hr.setOp 18).keep (hgrow.block b0 (by omega) (by simp))
  refine ⟨(kept_grown hk4 hgrow).setNew hb0 _, ⟨s + sl, hs, ?_⟩, ?_, ?_, hr5.setSub _, ⟨xs, own_carry hown (Below.heap_setCell _ _ _ _ (by show g ≠ b0; omega)), fun j hj => by omega⟩, fun j hj => by omega, ?_⟩
  · have := hb5.block (w' := w5.setCell ⟨b0, 2, none⟩ (.slice (some ⟨g, 0, none⟩) sl sl)) (Below.heap_setCell _ _ _ _ (by show bb ≠ b0; omega))
    exact this
  · show n + 1 + 0 ≤ _; omega
  · show r + rl + 0 ≤ _; omega
  · have := own_lt hown
    simpa [World.setCell] using this

theorem linv_step {w wr w' : World} {B bb b0 g f n r : Nat} {ro : Option Addr} {rl rc sl : Nat} {V : Nat → Value} {i : Nat} {N C : Nat → Nat} (hB : B ≤ bb) (hbb : bb < w.heap.size) (hb0 : w.heap.size ≤ b0) (hg : b0 < g)
    (h : LInv w wr B bb b0 g f n r ro rl rc sl V i N C) (hi : i < sl) {p : Option Addr} {Ni Ci s' : Nat} (hk : Kept bb wr w')
    (hbud : Bud w' bb ((n + 1 + sumTo N i + Ni : Nat) : Int) ((r + rl + sumTo C i + Ci : Nat) : Int) (s' : Int) true) (hnb : n + 1 + sumTo N i + Ni ≤ 32768) (hrb : r + rl + sumTo C i + Ci ≤ 131072) (hs' : s' ≤ 32768)
    (hcnt : Cnt wr B f (V i) Ni Ci) (hdst : Dst w' wr.heap.size f (.pointer p) Ni Ci) :
    LInv w (w'.setCell ⟨g, i, none⟩ (.pointer p)) B bb b0 g f n r ro rl rc sl V (i + 1) (upd N i Ni) (upd C i Ci) := by
  have hgl := h.gl
  have hks := hk.size
  have hsame : ∀ k, k ≠ g → (w'.setCell ⟨g, i, none⟩ (.pointer p)).heap[k]? = w'.heap[k]? := fun k hkg => Below.heap_setCell _ _ _ _ hkg
  obtain ⟨xs, hown, hxs⟩ := h.own
  have hxl : xs.length = sl := by have := hown.1; omega
  refine ⟨(h.kept.trans hk).setNew (by show w.heap.size ≤ g; omega) _, ⟨s', hs', ?_⟩, ?_, ?_, ?_, ?_, ?_, ?_⟩
  · rw [sumTo_upd, sumTo_upd, ← Nat.add_assoc, ← Nat.add_assoc]
    exact hbud.block (hsame bb (by omega))
  · rw [sumTo_upd]; omega
  · rw [sumTo_upd]; omega
  · refine (h.re.keep (hk.block b0 (by omega) (by omega))).keep (hsame b0 (by omega))
  · have hown' := own_carry hown (hk.block g hgl (by omega))
    refine ⟨xs.set i (.pointer p), ?_, ?_⟩
    · have := hown'.stored i (.pointer p)
      exact this.1
    · intro j hj
      rcases Nat.lt_or_ge j i with hji | hji
      · obtain ⟨v, hv, hd⟩ := hxs j hji
        refine ⟨v, by rw [List.getElem?_set_ne (by omega)]; exact hv, ?_⟩
        rw [upd_other N i Ni j (by omega), upd_other C i Ci j (by omega)]
        exact dst_carry (fun k h1 h2 => (hsame k (by omega)).trans (hk.block k h2 (by omega))) _ _ _ _ hd
      · obtain rfl : j = i := by omega
        refine ⟨.pointer p, by rw [List.getElem?_set_self (by omega)], ?_⟩
        rw [upd_same, upd_same]
        exact dst_carry (fun k h1 h2 => hsame k (by omega)) _ _ _ _ (dst_low (by omega) _ _ _ _ hdst)
  · intro j hj
    rcases Nat.lt_or_ge j i with hji | hji
    · rw [upd_other N i Ni j (by omega), upd_other C i Ci j (by omega)]
      exact h.cnt j hji
    · obtain rfl : j = i := by omega
      rw [upd_same, upd_same]
      exact cnt_carry (fun k hk2 => (h.kept.low hB hbb k hk2).symm) _ _ _ _ hcnt
  · show g < (w'.setCell ⟨g, i, none⟩ (.pointer p)).heap.size
    simp [World.setCell]; omega

theorem linv_done {w wr : World} {B bb b0 g f n r b o : Nat} {ro : Option Addr} {rl rc : Nat} {so : Option Addr} {sl sc : Nat} {V : Nat → Value} {N C : Nat → Nat} (hb0 : w.heap.size ≤ b0) (hg : b0 < g) (hnode : SrcNode w B b o ro rl rc so sl sc V)
    (h : LInv w wr B bb b0 g f n r ro rl rc sl V sl N C) : BPost bb B (f + 1) (.pointer (some ⟨b, o, none⟩)) n r w (.returned (.pointer (some ⟨b0, 0, none⟩))) wr := by
  obtain ⟨s', hs', hbud⟩ := h.bud
  obtain ⟨xs, hown, hxs⟩ := h.own
  have hnb := h.nb
  have hrb := h.rb
  refine ⟨_, rfl, h.kept, Or.inr ⟨1 + sumTo N sl, rl + sumTo C sl, s', ?_, by omega, by omega, hs', ⟨b, o, ro, rl, rc, so, sl, sc, V, N, C, rfl, hnode, h.cnt, rfl, rfl⟩, ?_⟩⟩
  · rw [← Nat.add_assoc, ← Nat.add_assoc]; exact hbud
  · refine ⟨b0, ro, rl, rc, some ⟨g, 0, none⟩, sl, fun j => (xs[j]?).getD undef, N, C, rfl, hb0, h.re.c4, h.re.c2, Or.inr ⟨g, rfl, by omega, fun j hj => ?_⟩, fun j hj => ?_, rfl, rfl⟩
    · rw [hown.cellAt j (by omega)]
      obtain ⟨v, hv, _⟩ := hxs j hj
      show xs[j]? = some ((xs[j]?).getD undef)
      rw [hv]; rfl
    · obtain ⟨v, hv, hd⟩ := hxs j hj
      show Dst wr w.heap.size f ((xs[j]?).getD undef) (N j) (C j)
      rw [hv]
      exact dst_low (by omega) _ _ _ _ hd
end Go.Proofs.Qxb6603613a
