/-
  DERIVED. The budget's block, and what a call keeps. No walk here.
-/
import Derived.Test.Qxb6603613aTree
namespace Go.Proofs.Qxb6603613a
open Go.RowKit
set_option linter.unusedVariables false

/-- The budget in block bb. -/
structure Bud (w : World) (bb : Nat) (n r s : Int) (ok : Bool) : Prop where
  c0 : w.cell? ⟨bb, 0, none⟩ = some (.int .i64 n)
  c1 : w.cell? ⟨bb, 1, none⟩ = some (.int .i64 r)
  c2 : w.cell? ⟨bb, 2, none⟩ = some (.int .i64 s)
  c3 : w.cell? ⟨bb, 3, none⟩ = some (.bool ok)
  fz : ∀ i, w.frozen? ⟨bb, i, none⟩ = false

theorem Bud.set0 {w : World} {bb : Nat} {n r s : Int} {ok : Bool} (h : Bud w bb n r s ok) (a : Int) : Bud (w.setCell ⟨bb, 0, none⟩ (.int .i64 a)) bb a r s ok :=
  ⟨World.cell?_setCell_same _ _ _ h.c0, (World.cell?_setCell_other _ _ _ _ (by simp)).trans h.c1, (World.cell?_setCell_other _ _ _ _ (by simp)).trans h.c2, (World.cell?_setCell_other _ _ _ _ (by simp)).trans h.c3, fun i => by rw [World.frozen?_setCell]; exact h.fz i⟩
theorem Bud.set1 {w : World} {bb : Nat} {n r s : Int} {ok : Bool} (h : Bud w bb n r s ok) (a : Int) : Bud (w.setCell ⟨bb, 1, none⟩ (.int .i64 a)) bb n a s ok :=
  ⟨(World.cell?_setCell_other _ _ _ _ (by simp)).trans h.c0, World.cell?_setCell_same _ _ _ h.c1, (World.cell?_setCell_other _ _ _ _ (by simp)).trans h.c2, (World.cell?_setCell_other _ _ _ _ (by simp)).trans h.c3, fun i => by rw [World.frozen?_setCell]; exact h.fz i⟩
theorem Bud.set2 {w : World} {bb : Nat} {n r s : Int} {ok : Bool} (h : Bud w bb n r s ok) (a : Int) : Bud (w.setCell ⟨bb, 2, none⟩ (.int .i64 a)) bb n r a ok :=
  ⟨(World.cell?_setCell_other _ _ _ _ (by simp)).trans h.c0, (World.cell?_setCell_other _ _ _ _ (by simp)).trans h.c1, World.cell?_setCell_same _ _ _ h.c2, (World.cell?_setCell_other _ _ _ _ (by simp)).trans h.c3, fun i => by rw [World.frozen?_setCell]; exact h.fz i⟩
theorem Bud.set3 {w : World} {bb : Nat} {n r s : Int} {ok : Bool} (h : Bud w bb n r s ok) (a : Bool) : Bud (w.setCell ⟨bb, 3, none⟩ (.bool a)) bb n r s a :=
  ⟨(World.cell?_setCell_other _ _ _ _ (by simp)).trans h.c0, (World.cell?_setCell_other _ _ _ _ (by simp)).trans h.c1, (World.cell?_setCell_other _ _ _ _ (by simp)).trans h.c2, World.cell?_setCell_same _ _ _ h.c3, fun i => by rw [World.frozen?_setCell]; exact h.fz i⟩
theorem Bud.drew {w : World} {bb : Nat} {n r s : Int} {ok : Bool} (h : Bud w bb n r s ok) : Bud w.drew bb n r s ok := ⟨h.c0, h.c1, h.c2, h.c3, h.fz⟩
theorem Bud.block {w w' : World} {bb : Nat} {n r s : Int} {ok : Bool} (h : Bud w bb n r s ok) (hb : w'.heap[bb]? = w.heap[bb]?) : Bud w' bb n r s ok :=
  ⟨(World.cell?_of_block (w := w) hb).trans h.c0, (World.cell?_of_block (w := w) hb).trans h.c1, (World.cell?_of_block (w := w) hb).trans h.c2, (World.cell?_of_block (w := w) hb).trans h.c3, fun i => (World.frozen?_of_block (w := w) hb).trans (h.fz i)⟩

/-- But for block bb, what was there is there. -/
structure Kept (bb : Nat) (w w' : World) : Prop where
  os : w'.os = w.os
  tape : w'.tape = w.tape
  output : w'.output = w.output
  size : w.heap.size ≤ w'.heap.size
  block : ∀ k, k < w.heap.size → k ≠ bb → w'.heap[k]? = w.heap[k]?

theorem Kept.refl (bb : Nat) (w : World) : Kept bb w w := ⟨rfl, rfl, rfl, Nat.le_refl _, fun _ _ _ => rfl⟩
theorem Kept.trans {bb : Nat} {a b c : World} (h : Kept bb a b) (k : Kept bb b c) : Kept bb a c :=
  ⟨k.os.trans h.os, k.tape.trans h.tape, k.output.trans h.output, Nat.le_trans h.size k.size, fun i hi hn => (k.block i (Nat.lt_of_lt_of_le hi h.size) hn).trans (h.block i hi hn)⟩
theorem Kept.drew {bb : Nat} {a w : World} (h : Kept bb a w) : Kept bb a w.drew := ⟨h.os, h.tape, h.output, h.size, h.block⟩
theorem Kept.alloc {bb : Nat} {a w : World} (h : Kept bb a w) (o : Obj) : Kept bb a (w.alloc o) :=
  h.trans ⟨rfl, rfl, rfl, by simp, fun k hk _ => Below.heap_alloc _ _ _ hk⟩
theorem Kept.set {bb : Nat} {a w : World} (h : Kept bb a w) (off : Nat) (u : Value) : Kept bb a (w.setCell ⟨bb, off, none⟩ u) :=
  h.trans ⟨rfl, rfl, rfl, by simp [World.setCell], fun k hk hn => Below.heap_setCell _ _ _ _ hn⟩
theorem Kept.setNew {bb : Nat} {a w : World} (h : Kept bb a w) {p : Addr} (hp : a.heap.size ≤ p.block) (u : Value) : Kept bb a (w.setCell p u) :=
  ⟨h.os, h.tape, h.output, by have := h.size; simpa [World.setCell] using this, fun k hk hn => (Below.heap_setCell _ _ _ _ (by omega)).trans (h.block k hk hn)⟩
theorem Kept.low {bb B : Nat} {a w : World} (h : Kept bb a w) (hB : B ≤ bb) (hb : bb < a.heap.size) : ∀ k, k < B → w.heap[k]? = a.heap[k]? := fun k hk => h.block k (by omega) (by omega)
theorem Kept.below {bb B : Nat} {a w : World} (h : Kept bb a w) (hB : B ≤ bb) (hb : bb < a.heap.size) : Below B a w := ⟨h.os, h.tape, h.output, h.size, h.low hB hb⟩

/-- What the build leaves. -/
def BPost (bb B f : Nat) (v : Value) (n r : Nat) (w : World) (e : Ending) (w' : World) : Prop :=
  ∃ p : Option Addr, e = .returned (.pointer p) ∧ Kept bb w w' ∧ ((∃ n' r' s' : Int, Bud w' bb n' r' s' false) ∨
    ∃ N C s' : Nat, Bud w' bb ((n + N : Nat) : Int) ((r + C : Nat) : Int) (s' : Int) true ∧ n + N ≤ 32768 ∧ r + C ≤ 131072 ∧ s' ≤ 32768 ∧ Cnt w B f v N C ∧ Dst w' w.heap.size f (.pointer p) N C)
theorem bpost_fail {bb B f : Nat} {v : Value} {n r : Nat} {w w' : World} {n' r' s' : Int} (hk : Kept bb w w') (hb : Bud w' bb n' r' s' false) (p : Option Addr) : BPost bb B f v n r w (.returned (.pointer p)) w' :=
  ⟨p, rfl, hk, Or.inl ⟨n', r', s', hb⟩⟩

/-- The cells of a built node. -/
def reCells (op : Int) (sub rune : Value) : Array Value :=
  #[.int .u8 op, .int .u16 0, sub, .pointer none, rune, .int .i32 0, .int .i32 0, .int .i64 0, .int .i64 0, .int .i64 0, .string { data := #[] }]
/-- A built node in block b. -/
structure ReAt (w : World) (b : Nat) (op : Int) (sub rune : Value) : Prop where
  block : w.heap[b]? = some (.cells (reCells op sub rune) 79 (0, 0))
theorem ReAt.cell {w : World} {b : Nat} {op : Int} {sub rune : Value} (h : ReAt w b op sub rune) (i : Nat) : w.cell? ⟨b, i, none⟩ = (reCells op sub rune)[i]? := by
  unfold World.cell?; simp [h.block]
theorem ReAt.c0 {w : World} {b : Nat} {op : Int} {sub rune : Value} (h : ReAt w b op sub rune) : w.cell? ⟨b, 0, none⟩ = some (.int .u8 op) := h.cell 0
theorem ReAt.c2 {w : World} {b : Nat} {op : Int} {sub rune : Value} (h : ReAt w b op sub rune) : w.cell? ⟨b, 2, none⟩ = some sub := h.cell 2
theorem ReAt.c4 {w : World} {b : Nat} {op : Int} {sub rune : Value} (h : ReAt w b op sub rune) : w.cell? ⟨b, 4, none⟩ = some rune := h.cell 4
theorem ReAt.fz {w : World} {b : Nat} {op : Int} {sub rune : Value} (h : ReAt w b op sub rune) (i : Nat) : w.frozen? ⟨b, i, none⟩ = false := by
  unfold World.frozen?; simp [h.block]
theorem ReAt.keep {w w' : World} {b : Nat} {op : Int} {sub rune : Value} (h : ReAt w b op sub rune) (hb : w'.heap[b]? = w.heap[b]?) : ReAt w' b op sub rune := ⟨hb.trans h.block⟩
theorem ReAt.lt {w : World} {b : Nat} {op : Int} {sub rune : Value} (h : ReAt w b op sub rune) : b < w.heap.size := by
  rcases Nat.lt_or_ge b w.heap.size with h1 | h1
  · exact h1
  · have := h.block; rw [Array.getElem?_eq_none h1] at this; cases this
theorem ReAt.new (w : World) (op : Int) (sub rune : Value) : ReAt (w.alloc (.cells (reCells op sub rune) 79)) w.heap.size op sub rune := ⟨heap_alloc_new w _⟩
theorem ReAt.setOp {w : World} {b : Nat} {op : Int} {sub rune : Value} (h : ReAt w b op sub rune) (a : Int) : ReAt (w.setCell ⟨b, 0, none⟩ (.int .u8 a)) b a sub rune := by
  refine ⟨?_⟩
  have := h.block
  simp only [World.setCell, Array.getElem?_modify, this]
  simp [reCells]
theorem ReAt.setSub {w : World} {b : Nat} {op : Int} {sub rune : Value} (h : ReAt w b op sub rune) (a : Value) : ReAt (w.setCell ⟨b, 2, none⟩ a) b op a rune := by
  refine ⟨?_⟩
  have := h.block
  simp only [World.setCell, Array.getElem?_modify, this]
  simp [reCells]
end Go.Proofs.Qxb6603613a
