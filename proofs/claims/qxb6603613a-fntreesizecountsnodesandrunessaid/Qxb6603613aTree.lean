/-
  DERIVED. Trees in memory: the source (RegexpNode), what is counted of it, and the built tree (Regexp). No walk here.
-/
import Derived.Test.Qxb6603613aProg
import Derived.WalkKit
import Derived.WalkSpells
import Derived.WalkLawsBesides
import Derived.Deep.Draws
namespace Go.Proofs.Qxb6603613a
open Go.RowKit
set_option linter.unusedVariables false

def sumTo (N : Nat → Nat) : Nat → Nat
  | 0 => 0
  | k + 1 => sumTo N k + N k
theorem sumTo_congr {N M : Nat → Nat} : ∀ (k : Nat), (∀ j, j < k → N j = M j) → sumTo N k = sumTo M k
  | 0, _ => rfl
  | k + 1, h => by
    show sumTo N k + N k = sumTo M k + M k
    rw [sumTo_congr k (fun j hj => h j (by omega)), h k (by omega)]
theorem sumTo_mono (N : Nat → Nat) (k m : Nat) (h : k ≤ m) : sumTo N k ≤ sumTo N m := by
  induction m with
  | zero => have : k = 0 := by omega
            subst this; exact Nat.le_refl _
  | succ m ih =>
    rcases Nat.lt_or_ge k (m + 1) with h1 | h1
    · have := ih (by omega)
      show _ ≤ sumTo N m + N m
      omega
    · have : k = m + 1 := by omega
      subst this; exact Nat.le_refl _
theorem sumTo_succ (N : Nat → Nat) (k : Nat) : sumTo N (k + 1) = sumTo N k + N k := rfl

/-- One node of the source, in memory below block B. -/
structure SrcNode (w : World) (B b o : Nat) (ro : Option Addr) (rl rc : Nat) (so : Option Addr) (sl sc : Nat) (V : Nat → Value) : Prop where
  lt : b < B
  rune : w.cell? ⟨b, o, none⟩ = some (.slice ro rl rc)
  sub : w.cell? ⟨b, o + 1, none⟩ = some (.slice so sl sc)
  kids : sl = 0 ∨ ∃ sb sof, so = some ⟨sb, sof, none⟩ ∧ sb < B ∧ ∀ j, j < sl → w.cell? ⟨sb, sof + j, none⟩ = some (V j)
  nilz : so = none → sl = 0 ∧ sc = 0

def Src (w : World) (B : Nat) : Nat → Value → Prop
  | 0, _ => False
  | f + 1, v => v = .pointer none ∨ ∃ b o ro rl rc so sl sc V, v = .pointer (some ⟨b, o, none⟩) ∧ SrcNode w B b o ro rl rc so sl sc V ∧ ∀ j, j < sl → Src w B f (V j)

/-- n nodes and c characters, no nil pointer among them. -/
def Cnt (w : World) (B : Nat) : Nat → Value → Nat → Nat → Prop
  | 0, _, _, _ => False
  | f + 1, v, n, c => ∃ b o ro rl rc so sl sc V N C, v = .pointer (some ⟨b, o, none⟩) ∧ SrcNode w B b o ro rl rc so sl sc V ∧ (∀ j, j < sl → Cnt w B f (V j) (N j) (C j)) ∧ n = 1 + sumTo N sl ∧ c = rl + sumTo C sl

/-- The built tree, in blocks from L on. -/
def Dst (w : World) (L : Nat) : Nat → Value → Nat → Nat → Prop
  | 0, _, _, _ => False
  | f + 1, v, n, c => ∃ (b : Nat) (ro : Option Addr) (rl rc : Nat) (so : Option Addr) (sl : Nat) (V : Nat → Value) (N C : Nat → Nat), v = .pointer (some ⟨b, 0, none⟩) ∧ L ≤ b ∧ w.cell? ⟨b, 4, none⟩ = some (.slice ro rl rc) ∧ w.cell? ⟨b, 2, none⟩ = some (.slice so sl sl) ∧
      (sl = 0 ∨ ∃ g, so = some ⟨g, 0, none⟩ ∧ L ≤ g ∧ ∀ j, j < sl → w.cell? ⟨g, j, none⟩ = some (V j)) ∧ (∀ j, j < sl → Dst w L f (V j) (N j) (C j)) ∧ n = 1 + sumTo N sl ∧ c = rl + sumTo C sl

theorem srcNode_carry {w w' : World} {B b o : Nat} {ro : Option Addr} {rl rc : Nat} {so : Option Addr} {sl sc : Nat} {V : Nat → Value} (hs : ∀ k, k < B → w'.heap[k]? = w.heap[k]?) (h : SrcNode w B b o ro rl rc so sl sc V) :
    SrcNode w' B b o ro rl rc so sl sc V := by
  have hc : ∀ (x y : Nat), x < B → w'.cell? ⟨x, y, none⟩ = w.cell? ⟨x, y, none⟩ := fun x y hx => World.cell?_of_block (w := w) (hs x hx)
  refine ⟨h.lt, (hc _ _ h.lt).trans h.rune, (hc _ _ h.lt).trans h.sub, ?_, h.nilz⟩
  rcases h.kids with h1 | ⟨sb, sof, h1, h2, h3⟩
  · exact Or.inl h1
  · exact Or.inr ⟨sb, sof, h1, h2, fun j hj => (hc _ _ h2).trans (h3 j hj)⟩

theorem src_carry {w w' : World} {B : Nat} (hs : ∀ k, k < B → w'.heap[k]? = w.heap[k]?) : ∀ (f : Nat) (v : Value), Src w B f v → Src w' B f v
  | 0, _, h => h
  | f + 1, v, h => by
    rcases h with h | ⟨b, o, ro, rl, rc, so, sl, sc, V, h1, h2, h3⟩
    · exact Or.inl h
    · exact Or.inr ⟨b, o, ro, rl, rc, so, sl, sc, V, h1, srcNode_carry hs h2, fun j hj => src_carry hs f _ (h3 j hj)⟩

theorem cnt_carry {w w' : World} {B : Nat} (hs : ∀ k, k < B → w'.heap[k]? = w.heap[k]?) : ∀ (f : Nat) (v : Value) (n c : Nat), Cnt w B f v n c → Cnt w' B f v n c
  | 0, _, _, _, h => h
  | f + 1, v, n, c, h => by
    obtain ⟨b, o, ro, rl, rc, so, sl, sc, V, N, C, h1, h2, h3, h4⟩ := h
    exact ⟨b, o, ro, rl, rc, so, sl, sc, V, N, C, h1, srcNode_carry hs h2, fun j hj => cnt_carry hs f _ _ _ (h3 j hj), h4⟩

theorem dst_carry {w w' : World} {L : Nat} (hs : ∀ k, L ≤ k → k < w.heap.size → w'.heap[k]? = w.heap[k]?) : ∀ (f : Nat) (v : Value) (n c : Nat), Dst w L f v n c → Dst w' L f v n c
  | 0, _, _, _, h => h
  | f + 1, v, n, c, h => by
    obtain ⟨b, ro, rl, rc, so, sl, V, N, C, h1, h2, h3, h4, h5, h6, h7⟩ := h
    have hc : ∀ (x y : Nat) (u : Value), L ≤ x → w.cell? ⟨x, y, none⟩ = some u → w'.cell? ⟨x, y, none⟩ = some u := fun x y u hx hu => by
      rw [← hu]; exact World.cell?_of_block (w := w) (hs x hx (World.block_lt_of_cell? _ _ hu))
    refine ⟨b, ro, rl, rc, so, sl, V, N, C, h1, h2, hc _ _ _ h2 h3, hc _ _ _ h2 h4, ?_, fun j hj => dst_carry hs f _ _ _ (h6 j hj), h7⟩
    rcases h5 with h5 | ⟨g, h5, h8, h9⟩
    · exact Or.inl h5
    · exact Or.inr ⟨g, h5, h8, fun j hj => hc _ _ _ h8 (h9 j hj)⟩

theorem dst_low {w : World} {L L' : Nat} (hL : L' ≤ L) : ∀ (f : Nat) (v : Value) (n c : Nat), Dst w L f v n c → Dst w L' f v n c
  | 0, _, _, _, h => h
  | f + 1, v, n, c, h => by
    obtain ⟨b, ro, rl, rc, so, sl, V, N, C, h1, h2, h3, h4, h5, h6, h7⟩ := h
    refine ⟨b, ro, rl, rc, so, sl, V, N, C, h1, by omega, h3, h4, ?_, fun j hj => dst_low hL f _ _ _ (h6 j hj), h7⟩
    rcases h5 with h5 | ⟨g, h5, h8, h9⟩
    · exact Or.inl h5
    · exact Or.inr ⟨g, h5, by omega, h9⟩

theorem dst_pos {w : World} {L : Nat} {f : Nat} {v : Value} {n c : Nat} (h : Dst w L f v n c) : 1 ≤ n := by
  cases f with
  | zero => exact h.elim
  | succ f =>
    obtain ⟨_, _, _, _, _, _, _, _, _, _, _, _, _, _, _, h7, _⟩ := h
    omega
theorem cnt_pos {w : World} {B : Nat} {f : Nat} {v : Value} {n c : Nat} (h : Cnt w B f v n c) : 1 ≤ n := by
  cases f with
  | zero => exact h.elim
  | succ f =>
    obtain ⟨_, _, _, _, _, _, _, _, _, _, _, _, _, _, h7, _⟩ := h
    omega
theorem sumTo_ge (N : Nat → Nat) : ∀ k, (∀ j, j < k → 1 ≤ N j) → k ≤ sumTo N k
  | 0, _ => Nat.le_refl _
  | k + 1, h => by
    have := sumTo_ge N k (fun j hj => h j (by omega))
    have := h k (by omega)
    rw [sumTo_succ]; omega
theorem sumTo_one (N : Nat → Nat) (j k : Nat) (h : j < k) : sumTo N j + N j ≤ sumTo N k := sumTo_mono N (j + 1) k h
end Go.Proofs.Qxb6603613a
