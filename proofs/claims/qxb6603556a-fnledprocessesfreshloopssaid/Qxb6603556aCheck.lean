/-
  DERIVED. What the law reads of the processes' memory, and what its three maps hold. No walk here.
-/
import Derived.Test.Qxb6603556aProcs
import Derived.Test.Qxb6603556aMaps
namespace Go.Proofs.Qxb6603556a
open Go.RowKit
open Go.ChangeMaps (setBlock)
set_option linter.unusedVariables false

/-- Below block m the world is as w1 was; three blocks more. -/
structure CInv (w1 wr : World) (m : Nat) : Prop where
  low : Below m w1 wr
  size : wr.heap.size = m + 3

theorem heap_setBlock_ne (w : World) (j k : Nat) (o : Obj) (h : k ≠ j) : (setBlock w j o).heap[k]? = w.heap[k]? := by
  simp only [setBlock]
  rw [Array.getElem?_setIfInBounds_ne (by exact fun e => h e.symm)]
theorem CInv.set {w1 wr : World} {m : Nat} (h : CInv w1 wr m) {j : Nat} (hj : m ≤ j) (o : Obj) : CInv w1 (setBlock wr j o) m := by
  refine ⟨⟨h.low.os, h.low.tape, h.low.output, ?_, fun k hk => (heap_setBlock_ne wr j k o (by omega)).trans (h.low.block k hk)⟩, ?_⟩
  · have := h.low.size; simpa [setBlock] using this
  · have := h.size; simpa [setBlock] using this
theorem MapLt.other {w : World} {m X j : Nat} (h : MapLt w m X) (hj : m ≠ j) (hX : X ≤ j) (o : Obj) : MapLt (setBlock w j o) m X := by
  obtain ⟨es, clock, h1, h2⟩ := h.at_
  refine ⟨es, clock, (heap_setBlock_ne w j m o hj).trans h1, fun e he => ?_⟩
  obtain ⟨b, h3, h4, c, t, h5⟩ := h2 e he
  exact ⟨b, h3, h4, c, t, (heap_setBlock_ne w j b o (by omega)).trans h5⟩

theorem blk_cell {w : World} {b : Nat} {c : Array Value} {t : TypeId} (h : w.heap[b]? = some (.cells c t (0, 0))) (i : Nat) : w.cell? ⟨b, i, none⟩ = c[i]? := by
  unfold World.cell?; simp [h]

/-- What is read of a loop. -/
structure LoopSeen (w : World) (q : Nat) (id n : Int) : Prop where
  l0 : w.cell? ⟨q + 2, 0, none⟩ = some (.pointer (some ⟨q + 1, 0, none⟩))
  l1 : w.cell? ⟨q + 2, 1, none⟩ = some (.int .i64 id)
  l2 : w.cell? ⟨q + 2, 2, none⟩ = some (.int .i64 0)
  o0 : w.cell? ⟨q + 1, 0, none⟩ = some (.int .i64 id)
  o1 : w.cell? ⟨q + 1, 1, none⟩ = some (.int .i64 n)
  o2 : w.cell? ⟨q + 1, 2, none⟩ = some (.int .i64 0)
  o3 : w.cell? ⟨q + 1, 3, none⟩ = some (.pointer (some ⟨q, 0, none⟩))
  o4 : w.cell? ⟨q + 1, 4, none⟩ = some (.int .i64 (-1))
  o5 : w.cell? ⟨q + 1, 5, none⟩ = some (.int .u64 0)
  o6 : w.cell? ⟨q + 1, 6, none⟩ = some (.pointer none)
  b1 : w.cell? ⟨q, 1, none⟩ = some (.slice none 0 0)
theorem LoopAt.seen {w : World} {q : Nat} {id n : Int} (h : LoopAt w q id n) : LoopSeen w q id n :=
  ⟨blk_cell h.loop 0, blk_cell h.loop 1, blk_cell h.loop 2, blk_cell h.obj 0, blk_cell h.obj 1, blk_cell h.obj 2, blk_cell h.obj 3, blk_cell h.obj 4, blk_cell h.obj 5, blk_cell h.obj 6, blk_cell h.big 1⟩

structure BoxSeen (w : World) (y L lb sb ab : Nat) : Prop where
  b2 : w.cell? ⟨y + 3, 2, none⟩ = some (.slice (some ⟨lb, 0, none⟩) L L)
  b3 : w.cell? ⟨y + 3, 3, none⟩ = some (.slice (some ⟨sb, 0, none⟩) L L)
  b4 : w.cell? ⟨y + 3, 4, none⟩ = some (.slice (some ⟨ab, 0, none⟩) L L)
theorem LoopsMem.seen {w : World} {y : Nat} {id n : Int} {L lb sb ab : Nat} (h : LoopsMem w y id n L lb sb ab) : BoxSeen w y L lb sb ab :=
  ⟨blk_cell h.box 2, blk_cell h.box 3, blk_cell h.box 4⟩
structure RowSeen (w : World) (y c lb sb ab : Nat) : Prop where
  l : w.cell? ⟨lb, c, none⟩ = some (.pointer (some ⟨y + 4 + 3 * c + 2, 0, none⟩))
  s0 : w.cell? ⟨sb, c * 2, none⟩ = some (.int .i64 ((c : Int) + 1))
  s1 : w.cell? ⟨sb, c * 2 + 1, none⟩ = some (.pointer none)
  a : w.cell? ⟨ab, c, none⟩ = some (.bool false)
theorem LoopsMem.rows {w : World} {y : Nat} {id n : Int} {L lb sb ab : Nat} (h : LoopsMem w y id n L lb sb ab) {c : Nat} (hc : c < L) : RowSeen w y c lb sb ab := by
  refine ⟨?_, ?_, ?_, h.arow.cell hc⟩
  · rw [h.lrow.cell hc]; unfold lfun; rw [if_pos hc]
  · rw [h.srow.cell (by omega)]; unfold sfun
    rw [if_pos (by omega), if_pos (by omega), show c * 2 / 2 = c by omega]; rfl
  · rw [h.srow.cell (by omega)]; unfold sfun
    rw [if_neg (by omega)]

/-- The maps when k processes are through. -/
structure OInv (w1 wr : World) (m X : Nat) : Prop where
  ci : CInv w1 wr m
  m1 : MapLt wr m X
  m2 : MapLt wr (m + 1) X
  m3 : MapLt wr (m + 2) X
/-- .. and c loops of the next one, y its first block. -/
structure LoInv (w1 wr : World) (m y c : Nat) : Prop where
  ci : CInv w1 wr m
  m1 : MapLt wr m (y + 4)
  m2 : MapLt wr (m + 1) (y + 4 + 3 * c)
  m3 : MapLt wr (m + 2) (y + 4 + 3 * c)

theorem oinv_start (w1 : World) : OInv w1 (((w1.alloc (.map #[] 0)).alloc (.map #[] 0)).alloc (.map #[] 0)) w1.heap.size 0 := by
  have hb : Below w1.heap.size w1 (((w1.alloc (.map #[] 0)).alloc (.map #[] 0)).alloc (.map #[] 0)) :=
    (((Below.refl _ _).alloc (Nat.le_refl _) _).alloc (by simp only [World.size_alloc]; omega) _).alloc (by simp only [World.size_alloc]; omega) _
  refine ⟨⟨hb, by simp⟩, ⟨#[], 0, ?_, by simp⟩, ⟨#[], 0, ?_, by simp⟩, ⟨#[], 0, ?_, by simp⟩⟩
  · rw [Below.heap_alloc _ _ _ (by simp only [World.size_alloc]; omega), Below.heap_alloc _ _ _ (by simp only [World.size_alloc]; omega)]; exact heap_alloc_new w1 _
  · rw [Below.heap_alloc _ _ _ (by simp only [World.size_alloc]; omega)]
    have := heap_alloc_new (w1.alloc (.map #[] 0)) (.map #[] 0)
    simpa using this
  · have := heap_alloc_new ((w1.alloc (.map #[] 0)).alloc (.map #[] 0)) (.map #[] 0)
    simpa using this

theorem OInv.up {w1 wr : World} {m X Y : Nat} (h : OInv w1 wr m X) (hXY : X ≤ Y) : OInv w1 wr m Y := ⟨h.ci, h.m1.up hXY, h.m2.up hXY, h.m3.up hXY⟩
theorem LoInv.done {w1 wr : World} {m y L : Nat} (h : LoInv w1 wr m y L) : OInv w1 wr m (y + 5 + 3 * L) := ⟨h.ci, h.m1.up (by omega), h.m2.up (by omega), h.m3.up (by omega)⟩

theorem Try.info65 : (Try.prog.info? 65).map (fun i => i.size) = some 5 := by kernel_rfl
theorem Try.info67 : (Try.prog.info? 67).map (fun i => i.size) = some 3 := by kernel_rfl
theorem Try.info69 : (Try.prog.info? 69).map (fun i => i.size) = some 7 := by kernel_rfl
theorem info_size {t : TypeId} {n : Nat} (h : (Try.prog.info? t).map (fun i => i.size) = some n) : ∃ j, Try.prog.info? t = some j ∧ j.size = n := by
  obtain ⟨j, h1, h2⟩ := Option.map_eq_some_iff.1 h
  exact ⟨j, h1, h2⟩

theorem look_any {w : World} {mt tp te n : Nat} {m k X : Nat} {ck : Array Value} {tk : TypeId} (hm : Try.prog.underlying mt = some (.map tp 4)) (hp : Try.prog.underlying tp = some (.pointer te)) (ht : (Try.prog.info? te).map (fun i => i.size) = some (n + 1))
    (hk : w.heap[k]? = some (.cells ck tk (0, 0))) (hX : X ≤ k) (h : MapLt w m X) :
    (Instr.lookup mt (.map (some m)) (.pointer (some ⟨k, 0, none⟩)) false).run Try.prog w = .ok (.bool false) w := by
  obtain ⟨j, h1, h2⟩ := info_size ht
  obtain ⟨i4, h3, h4⟩ := Option.map_eq_some_iff.1 Try.info4
  simp only [Prod.mk.injEq] at h4
  exact look_new w hm hp h1 (by omega) h3 h4.1 hk hX h
theorem upd_any {w : World} {mt tp te n : Nat} {m k X : Nat} {ck : Array Value} {tk : TypeId} (hm : Try.prog.underlying mt = some (.map tp 4)) (hp : Try.prog.underlying tp = some (.pointer te)) (ht : (Try.prog.info? te).map (fun i => i.size) = some (n + 1))
    (hk : w.heap[k]? = some (.cells ck tk (0, 0))) (hX : X ≤ k) (h : MapLt w m X) :
    ∃ o, (Instr.mapUpdate mt (.map (some m)) (.pointer (some ⟨k, 0, none⟩)) (.bool true)).run Try.prog w = .ok () (setBlock w m o) ∧ MapLt (setBlock w m o) m (k + 1) := by
  obtain ⟨j, h1, h2⟩ := info_size ht
  exact update_new w hm hp h1 (by omega) hk hX h

/-- The outer step: the process's Loops is new, and is noted. -/
theorem outer_step {w1 wr : World} {m y : Nat} {id n : Int} {L lb sb ab : Nat} (h : OInv w1 wr m y) (hm : LoopsMem wr y id n L lb sb ab) (hy : y + 5 + 3 * L ≤ m) :
    (Instr.lookup 29 (.map (some m)) (.pointer (some ⟨y + 3, 0, none⟩)) false).run Try.prog wr = .ok (.bool false) wr ∧
    ∃ w2, (Instr.mapUpdate 29 (.map (some m)) (.pointer (some ⟨y + 3, 0, none⟩)) (.bool true)).run Try.prog wr = .ok () w2 ∧ LoInv w1 w2 m y 0 := by
  refine ⟨look_any Try.underlying29 Try.underlying36 Try.info65 hm.box (by omega) h.m1, ?_⟩
  obtain ⟨o, h1, h2⟩ := upd_any Try.underlying29 Try.underlying36 Try.info65 hm.box (by omega) h.m1
  exact ⟨_, h1, h.ci.set (Nat.le_refl _) o, h2, (h.m2.other (by omega) (by omega) o).up (by omega), (h.m3.other (by omega) (by omega) o).up (by omega)⟩

/-- The inner step: the loop is new, and is noted; its object is new, and is noted. -/
theorem inner_step {w1 wr : World} {m y c : Nat} {id n : Int} (h : LoInv w1 wr m y c) (hl : LoopAt wr (y + 4 + 3 * c) id n) (hy : y + 4 + 3 * c + 3 ≤ m) :
    (Instr.lookup 30 (.map (some (m + 1))) (.pointer (some ⟨y + 4 + 3 * c + 2, 0, none⟩)) false).run Try.prog wr = .ok (.bool false) wr ∧
    ∃ w2, (Instr.mapUpdate 30 (.map (some (m + 1))) (.pointer (some ⟨y + 4 + 3 * c + 2, 0, none⟩)) (.bool true)).run Try.prog wr = .ok () w2 ∧ CInv w1 w2 m ∧
    (Instr.lookup 31 (.map (some (m + 2))) (.pointer (some ⟨y + 4 + 3 * c + 1, 0, none⟩)) false).run Try.prog w2 = .ok (.bool false) w2 ∧
    ∃ w3, (Instr.mapUpdate 31 (.map (some (m + 2))) (.pointer (some ⟨y + 4 + 3 * c + 1, 0, none⟩)) (.bool true)).run Try.prog w2 = .ok () w3 ∧ LoInv w1 w3 m y (c + 1) := by
  refine ⟨look_any Try.underlying30 Try.underlying39 Try.info67 hl.loop (by omega) h.m2, ?_⟩
  obtain ⟨o, h1, h2⟩ := upd_any Try.underlying30 Try.underlying39 Try.info67 hl.loop (by omega) h.m2
  have hc2 := h.ci.set (j := m + 1) (by omega) o
  have hm3 := h.m3.other (j := m + 1) (by omega) (by omega) o
  have hm1 := h.m1.other (j := m + 1) (by omega) (by omega) o
  have hobj : (setBlock wr (m + 1) o).heap[y + 4 + 3 * c + 1]? = some (.cells (objCells id n (y + 4 + 3 * c)) 69 (0, 0)) := (heap_setBlock_ne _ _ _ _ (by omega)).trans hl.obj
  refine ⟨_, h1, hc2, look_any Try.underlying31 Try.underlying42 Try.info69 hobj (by omega) hm3, ?_⟩
  obtain ⟨o2, h3, h4⟩ := upd_any Try.underlying31 Try.underlying42 Try.info69 hobj (by omega) hm3
  exact ⟨_, h3, hc2.set (j := m + 2) (by omega) o2, hm1.other (by omega) (by omega) o2, (h2.other (by omega) (by omega) o2).up (by omega), h4.up (by omega)⟩
end Go.Proofs.Qxb6603556a
