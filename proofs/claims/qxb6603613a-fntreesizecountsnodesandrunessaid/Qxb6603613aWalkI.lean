/-
  DERIVED. The walk of 'zzTreeCountIter' (12).
-/
import Derived.Test.Qxb6603613aTree
import Derived.Laws.AppendOwnNone
namespace Go.Proofs.Qxb6603613a
open Go.RowKit
set_option linter.unusedVariables false

theorem Try.info35 : (Try.prog.info? 35).map (fun i => (i.zero, i.size, i.bytes)) = some (some (.pointer none), 1, 8) := by kernel_rfl

theorem own_shape {w : World} {base : Nat} {e : TypeId} {v : Value} {n : Nat} {xs : List Value} (h : w.ownsRow base e 1 v n xs) : ∃ ao cap, v = .slice ao n cap := by
  rcases h.2 with ⟨rfl, rfl⟩ | ⟨g, cap, cur, rfl, _⟩
  · exact ⟨_, _, rfl⟩
  · exact ⟨_, _, rfl⟩
theorem own_some {w : World} {base : Nat} {e : TypeId} {v : Value} {n : Nat} {xs : List Value} (h : w.ownsRow base e 1 v n xs) (hn : 0 < n) : ∃ g cap, v = .slice (some ⟨g, 0, none⟩) n cap ∧ base ≤ g ∧ n ≤ cap := by
  rcases h.2 with ⟨rfl, rfl⟩ | ⟨g, cap, cur, rfl, hb, hh, hc, _⟩
  · omega
  · exact ⟨g, cap, rfl, hb, hc⟩
theorem own_ownBlock {w : World} {base : Nat} {e : TypeId} {v : Value} {n : Nat} {xs : List Value} (h : w.ownsRow base e 1 v n xs) : ∀ k, v.ownBlock = some k → base ≤ k := by
  rcases h.2 with ⟨rfl, rfl⟩ | ⟨g, cap, cur, rfl, hb, hh, _⟩
  · intro k hk; cases hk
  · intro k hk; simp [Value.ownBlock] at hk; omega

abbrev It := Value × Nat × Nat
def sumN (L : List It) : Nat := (L.map fun x => x.2.1).sum
def sumC (L : List It) : Nat := (L.map fun x => x.2.2).sum
def vals (L : List It) : List Value := L.map fun x => x.1
theorem sumN_append (a b : List It) : sumN (a ++ b) = sumN a + sumN b := by simp [sumN]
theorem sumC_append (a b : List It) : sumC (a ++ b) = sumC a + sumC b := by simp [sumC]
theorem vals_append (a b : List It) : vals (a ++ b) = vals a ++ vals b := by simp [vals]
theorem vals_length (a : List It) : (vals a).length = a.length := by simp [vals]
def kids (V : Nat → Value) (N C : Nat → Nat) (k : Nat) : List It := (List.range k).map fun j => (V j, N j, C j)
theorem kids_length (V : Nat → Value) (N C : Nat → Nat) (k : Nat) : (kids V N C k).length = k := by simp [kids]
theorem kids_sumN (V : Nat → Value) (N C : Nat → Nat) : ∀ k, sumN (kids V N C k) = sumTo N k
  | 0 => rfl
  | k + 1 => by
    have h := kids_sumN V N C k
    unfold kids at h ⊢
    rw [List.range_succ, List.map_append, sumN_append, h, sumTo_succ]; simp [sumN]
theorem kids_sumC (V : Nat → Value) (N C : Nat → Nat) : ∀ k, sumC (kids V N C k) = sumTo C k
  | 0 => rfl
  | k + 1 => by
    have h := kids_sumC V N C k
    unfold kids at h ⊢
    rw [List.range_succ, List.map_append, sumC_append, h, sumTo_succ]; simp [sumC]
def AllCnt (w : World) (B : Nat) (L : List It) : Prop := ∀ x ∈ L, ∃ f, Cnt w B f x.1 x.2.1 x.2.2
theorem len_le_sumN {w : World} {B : Nat} : ∀ (L : List It), AllCnt w B L → L.length ≤ sumN L
  | [], _ => Nat.le_refl _
  | x :: L, h => by
    have h1 := len_le_sumN L (fun y hy => h y (by simp [hy]))
    obtain ⟨f, hf⟩ := h x (by simp)
    have := cnt_pos hf
    simp only [sumN, List.map_cons, List.sum_cons, List.length_cons] at h1 ⊢
    omega
theorem kids_at (V : Nat → Value) (N C : Nat → Nat) (k j : Nat) (u : Value) (h : (vals (kids V N C k))[j]? = some u) : j < k ∧ u = V j := by
  have hj : j < k := by
    have := (List.getElem?_eq_some_iff.1 h).1
    rwa [vals_length, kids_length] at this
  refine ⟨hj, ?_⟩
  unfold vals kids at h
  simp [hj] at h
  exact h.symm
theorem kids_cnt {w : World} {B f k : Nat} {V : Nat → Value} {N C : Nat → Nat} (h : ∀ j, j < k → Cnt w B f (V j) (N j) (C j)) : AllCnt w B (kids V N C k) := by
  intro x hx
  unfold kids at hx
  obtain ⟨j, hj, rfl⟩ := List.mem_map.1 hx
  exact ⟨f, h j (List.mem_range.1 hj)⟩
theorem cnt_ptr {w : World} {B f : Nat} {v : Value} {n c : Nat} (h : Cnt w B f v n c) : ∃ b o, v = .pointer (some ⟨b, o, none⟩) := by
  cases f with
  | zero => exact h.elim
  | succ f =>
    obtain ⟨b, o, _, _, _, _, _, _, _, _, _, h1, _⟩ := h
    exact ⟨b, o, h1⟩

/-- What the loop knows. -/
structure IRel (w : World) (B n c : Nat) (L : List It) (d e : Nat) : Prop where
  nodes : d + sumN L = n
  chars : e + sumC L = c
  all : AllCnt w B L

theorem irel_step {w : World} {B n c d e f : Nat} {L : List It} {x : It} {rl sl : Nat} {V : Nat → Value} {N C : Nat → Nat}
    (h : IRel w B n c (L ++ [x]) d e) (hn : x.2.1 = 1 + sumTo N sl) (hc : x.2.2 = rl + sumTo C sl) (hk : ∀ j, j < sl → Cnt w B f (V j) (N j) (C j)) :
    IRel w B n c (L ++ kids V N C sl) (d + 1) (e + rl) := by
  obtain ⟨h1, h2, h3⟩ := h
  refine ⟨?_, ?_, ?_⟩
  · rw [sumN_append] at h1 ⊢; rw [kids_sumN]; simp [sumN] at h1 ⊢; omega
  · rw [sumC_append] at h2 ⊢; rw [kids_sumC]; simp [sumC] at h2 ⊢; omega
  · intro y hy
    rcases List.mem_append.1 hy with h4 | h4
    · exact h3 y (by simp [h4])
    · exact kids_cnt hk y h4

set_option maxHeartbeats 800000 in
theorem iter_any (B : Nat) (w : World) (v : Value) (n c f : Nat) (h : Cnt w B f v n c) (hB : B ≤ w.heap.size) (hn : n ≤ 32768) (hc : c ≤ 131072) :
    Calls Try.prog 12 #[v] w fun e w' => e = .returned (.tuple #[.int .i64 n, .int .i64 c]) ∧ Below w.heap.size w w' := by
  obtain ⟨i0, hi, hz0, hz1, hz2⟩ := info_parts Try.info35
  have HI : Hid (IRel w B n c [(v, n, c)] 0 0) := ⟨by simp [sumN], by simp [sumC], fun x hx => by simp at hx; subst hx; exact ⟨f, h⟩⟩
  obtain ⟨rb, rof, rfl⟩ := cnt_ptr h
  clear h
  go_enter Try.func12, Try.ntmps12
  go_wp2
  go_loopw [4, 5, 6] (fun a b s wr => ∃ (L : List It) (d e : Nat), a = .int .i64 d ∧ b = .int .i64 e ∧ IRel w B n c L d e ∧ wr.ownsRow w.heap.size 35 1 s L.length (vals L) ∧ Below w.heap.size w wr)
    (fun a _ _ _ => n - (intOf a).toNat)
  case atStart => exact ⟨_, 0, 0, rfl, rfl, HI.out, World.ownsRow_lit w #[.pointer (some ⟨rb, rof, none⟩)] 1 (Nat.le_refl _) (by unfold maxLen; omega) rfl, (Below.refl _ _).alloc (Nat.le_refl _) _⟩
  case round =>
    obtain ⟨L, d, e, rfl, rfl, hr, hown, hbel⟩ := hrel
    have hdn := hr.nodes
    have hec := hr.chars
    have hlen := len_le_sumN L hr.all
    clear HI
    rcases List.eq_nil_or_concat L with rfl | ⟨L', x, rfl⟩
    · have hd : d = n := by simpa [sumN] using hdn
      have he : e = c := by simpa [sumC] using hec
      subst hd he
      obtain ⟨ao, cap, rfl⟩ := own_shape hown
      clear hr hdn hec hlen
      go_wp2
      go_ret2
      exact ⟨rfl, hbel⟩
    · rw [List.concat_eq_append] at hr hown hdn hec hlen
      obtain ⟨fx, hfx⟩ := hr.all x (by simp)
      obtain ⟨xv, xn, xc⟩ := x
      cases fx with
      | zero => exact hfx.elim
      | succ fx =>
        obtain ⟨b, o, ro, rl, rc, so, sl, sc, V, N, C, hxv, hnode, hkid, hxn, hxc⟩ := hfx
        obtain rfl : xv = .pointer (some ⟨b, o, none⟩) := hxv
        have HR : Hid (IRel w B n c (L' ++ kids V N C sl) (d + 1) (e + rl)) := irel_step hr hxn hxc hkid
        have hdn1 := HR.out.nodes
        have hec1 := HR.out.chars
        have hlen1 := len_le_sumN _ HR.out.all
        rw [List.length_append, kids_length] at hlen1
        have hl : (L' ++ [((Value.pointer (some ⟨b, o, none⟩), xn, xc) : It)]).length = L'.length + 1 := by simp
        rw [hl, vals_append] at hown
        rw [hl] at hlen
        obtain ⟨g, cap, rfl, hg, hcap⟩ := own_some hown (by omega)
        have hcell : wr.cell? ⟨g, L'.length, none⟩ = some (.pointer (some ⟨b, o, none⟩)) := by
          rw [hown.cellAt L'.length (by omega), List.getElem?_append_right (by rw [vals_length]; omega), vals_length]
          simp [vals]
        have hpop := ownsRow_pop (by rw [vals_length]; omega) hown
        have hbw : b < w.heap.size := Nat.lt_of_lt_of_le hnode.lt hB
        have hc0 : wr.cell? ⟨b, o, none⟩ = some (.slice ro rl rc) := (hbel.cell (p := ⟨b, o, none⟩) hbw).trans hnode.rune
        have hc1 : wr.cell? ⟨b, o + 1, none⟩ = some (.slice so sl sc) := (hbel.cell (p := ⟨b, o + 1, none⟩) hbw).trans hnode.sub
        have hone : ∀ u ∈ vals (kids V N C sl), u.oneCell' = true := by
          intro u hu
          obtain ⟨j, hj⟩ := List.getElem?_of_mem hu
          obtain ⟨hj1, rfl⟩ := kids_at _ _ _ _ _ _ hj
          obtain ⟨b', o', e'⟩ := cnt_ptr (hkid j hj1)
          rw [e']; rfl
        have hkids := hnode.kids
        have hnilz := hnode.nilz
        have hsl : L'.length + sl ≤ 32768 := by omega
        have hd1 : d + 1 ≤ 32768 := by omega
        have he1 : e + rl ≤ 131072 := by omega
        have hdlt : d < n := by omega
        clear hown hr hnode hkid hxn hxc hdn hec hlen hdn1 hec1 hlen1 hl
        cases so with
        | none =>
          obtain ⟨rfl, rfl⟩ := hnilz rfl
          clear hkids hnilz hone
          go_wp2_with (at_builtin; refine wpList_append_own_none rfl (.tmp 33) (.tmp 37) 69 rfl w.heap.size 35 i0 1 Try.underlying69 hi _ _ _ rfl hpop rfl ?_)
          go_roundw
          case rel => exact ⟨_, d + 1, e + rl, by go_num, by go_num, HR.out, by simpa [kids] using hpop, hbel⟩
          case measure => simp [intOf]; omega
        | some ad =>
          have hnews : ∀ j u, (vals (kids V N C sl))[j]? = some u → wr.cell? (ad.add j) = some u := by
            intro j u hj
            obtain ⟨hj1, rfl⟩ := kids_at _ _ _ _ _ _ hj
            rcases hkids with h0 | ⟨sb, sof, h1, h2, h3⟩
            · omega
            · cases h1
              have e1 : (⟨sb, sof, none⟩ : Addr).add j = ⟨sb, sof + j, none⟩ := by cases j <;> simp [Addr.add]
              rw [e1]
              exact (hbel.cell (p := ⟨sb, sof + j, none⟩) (Nat.lt_of_lt_of_le h2 hB)).trans (h3 j hj1)
          clear hkids hnilz
          go_wp2_with (at_builtin; refine wpList_append_own _ rfl (.tmp 33) (.tmp 37) 69 rfl w.heap.size 35 i0 (.pointer none) 1 8 Try.underlying69 hi hz0 hz1 hz2 rfl (by decide) _ _ _ rfl hpop ad sl sc (vals (kids V N C sl)) rfl ?c0 ?c1 ?c2 ?c3 ?c4 ?c5 ?_)
          case c0 => rw [vals_length, kids_length]; omega
          case c1 => exact hnews
          case c2 => exact hone
          case c3 => unfold maxLen; omega
          case c4 => omega
          case c5 => exact hbel.size
          intro v' w1 hown' hgrow _
          have hb1 : Below w.heap.size w w1 := hbel.grown hgrow hbel.size (own_ownBlock hpop)
          have hown1 : w1.ownsRow w.heap.size 35 1 v' (L' ++ kids V N C sl).length (vals (L' ++ kids V N C sl)) := by
            rw [vals_append, List.length_append, kids_length]; exact hown'
          clear hown' hgrow hpop
          go_wp2
          go_roundw
          case rel => exact ⟨_, d + 1, e + rl, by go_num, by go_num, HR.out, hown1, hb1⟩
          case measure => simp [intOf]; omega
end Go.Proofs.Qxb6603613a
