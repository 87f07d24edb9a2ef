/-
  DERIVED. The memory that 'Processes' makes: what lies in which block. No walk here.
-/
import Derived.Test.Qxb6603556aProg
import Derived.WalkKit
import Derived.WalkSpells
import Derived.WalkLawsBesides
import Derived.Laws.EntriesVeiled
import Derived.Deep.OwnRows
namespace Go.Proofs.Qxb6603556a
open Go.RowKit
set_option linter.unusedVariables false

def bigCells : Array Value := #[.bool false, .slice none 0 0]
def objCells (id n : Int) (pb : Nat) : Array Value := #[.int .i64 id, .int .i64 n, .int .i64 0, .pointer (some ⟨pb, 0, none⟩), .int .i64 (-1), .int .u64 0, .pointer none]
def loopCells (id : Int) (ob : Nat) : Array Value := #[.pointer (some ⟨ob, 0, none⟩), .int .i64 id, .int .i64 0]

/-- What 'NewLoop(id, n)' adds to the world. -/
def mkLoop (w : World) (id n : Int) : World :=
  ((w.alloc (.cells bigCells 73)).alloc (.cells (objCells id n w.heap.size) 69)).alloc (.cells (loopCells id (w.heap.size + 1)) 67)

/-- One loop: blocks q (the position), q + 1 (the object), q + 2 (the loop). -/
structure LoopAt (w : World) (q : Nat) (id n : Int) : Prop where
  big : w.heap[q]? = some (.cells bigCells 73 (0, 0))
  obj : w.heap[q + 1]? = some (.cells (objCells id n q) 69 (0, 0))
  loop : w.heap[q + 2]? = some (.cells (loopCells id (q + 1)) 67 (0, 0))
theorem LoopAt.keep {w w' : World} {q : Nat} {id n : Int} (h : LoopAt w q id n) (hs : ∀ k, q ≤ k → k < q + 3 → w'.heap[k]? = w.heap[k]?) : LoopAt w' q id n :=
  ⟨(hs _ (by omega) (by omega)).trans h.big, (hs _ (by omega) (by omega)).trans h.obj, (hs _ (by omega) (by omega)).trans h.loop⟩
theorem size_mkLoop (w : World) (id n : Int) : (mkLoop w id n).heap.size = w.heap.size + 3 := by simp [mkLoop]
theorem low_mkLoop (w : World) (id n : Int) (k : Nat) (h : k < w.heap.size) : (mkLoop w id n).heap[k]? = w.heap[k]? := by
  unfold mkLoop
  rw [Below.heap_alloc _ _ _ (by simp only [World.size_alloc]; omega), Below.heap_alloc _ _ _ (by simp only [World.size_alloc]; omega), Below.heap_alloc _ _ _ h]
theorem below_mkLoop (w : World) (id n : Int) (B : Nat) (h : B ≤ w.heap.size) : Below B w (mkLoop w id n) :=
  ⟨rfl, rfl, rfl, by rw [size_mkLoop]; omega, fun k hk => low_mkLoop w id n k (by omega)⟩
theorem loopAt_mkLoop (w : World) (id n : Int) : LoopAt (mkLoop w id n) w.heap.size id n := by
  unfold mkLoop
  refine ⟨?_, ?_, ?_⟩
  · rw [Below.heap_alloc _ _ _ (by simp only [World.size_alloc]; omega), Below.heap_alloc _ _ _ (by simp)]; exact heap_alloc_new w _
  · rw [Below.heap_alloc _ _ _ (by simp)]
    have := heap_alloc_new (w.alloc (.cells bigCells 73)) (.cells (objCells id n w.heap.size) 69)
    simpa using this
  · have := heap_alloc_new ((w.alloc (.cells bigCells 73)).alloc (.cells (objCells id n w.heap.size) 69)) (.cells (loopCells id (w.heap.size + 1)) 67)
    simpa using this

def loopsCells (id n : Int) (L lb sb ab : Nat) : Array Value := #[.int .i64 id, .int .i64 n, .slice (some ⟨lb, 0, none⟩) L L, .slice (some ⟨sb, 0, none⟩) L L, .slice (some ⟨ab, 0, none⟩) L L]
def lfun (x k c : Nat) : Value := if c < k then .pointer (some ⟨x + 4 + 3 * c + 2, 0, none⟩) else .pointer none
def sfun (k j : Nat) : Value := if j % 2 = 0 then (if j / 2 < k then .int .i64 (((j / 2 + 1 : Nat)) : Int) else .int .i64 0) else .pointer none

/-- What 'NewLoops' has made when k of its L loops are made; x: the heap's size when it began. -/
structure NInv (wr : World) (x : Nat) (id n : Int) (L k lb sb ab : Nat) : Prop where
  box : wr.heap[x + 3]? = some (.cells (loopsCells id n L lb sb ab) 65 (0, 0))
  lrow : wr.rowIs lb 39 L (lfun x k)
  srow : wr.rowIs sb 75 (L * 2) (sfun k)
  arow : wr.rowIs ab 4 L (fun _ => .bool false)
  loops : ∀ c, c < k → LoopAt wr (x + 4 + 3 * c) id n
  size : wr.heap.size = x + 4 + 3 * k
  l1 : x ≤ lb
  l2 : lb < x + 3
  s1 : x ≤ sb
  s2 : sb < x + 3
  a1 : x ≤ ab
  a2 : ab < x + 3
  ls : lb ≠ sb
  la : lb ≠ ab
  sa : sb ≠ ab
theorem NInv.drew {wr : World} {x : Nat} {id n : Int} {L k lb sb ab : Nat} (h : NInv wr x id n L k lb sb ab) : NInv wr.drew x id n L k lb sb ab :=
  ⟨h.box, h.lrow, h.srow, h.arow, fun c hc => ⟨(h.loops c hc).big, (h.loops c hc).obj, (h.loops c hc).loop⟩, h.size, h.l1, h.l2, h.s1, h.s2, h.a1, h.a2, h.ls, h.la, h.sa⟩

theorem made_two (n : Nat) (i : Nat) (hi : i < n * 2) : (madeCells #[Value.int .i64 0, .pointer none] (n * 2))[i]? = some (sfun 0 i) := by
  have h2 : i % 2 < 2 := Nat.mod_lt _ (by omega)
  simp only [madeCells, Array.getElem?_map]
  rw [Array.getElem?_eq_getElem (by simpa using hi)]
  simp only [Array.getElem_range, Option.map_some]
  unfold sfun
  rcases (by omega : i % 2 = 0 ∨ i % 2 = 1) with h | h
  · simp [h]
  · simp [h]

theorem four_blocks (w : World) (o1 o2 o3 o4 : Obj) :
    ((((w.alloc o1).alloc o2).alloc o3).alloc o4).heap[w.heap.size]? = some o1 ∧ ((((w.alloc o1).alloc o2).alloc o3).alloc o4).heap[w.heap.size + 1]? = some o2 ∧
    ((((w.alloc o1).alloc o2).alloc o3).alloc o4).heap[w.heap.size + 1 + 1]? = some o3 ∧ ((((w.alloc o1).alloc o2).alloc o3).alloc o4).heap[w.heap.size + 3]? = some o4 ∧
    ((((w.alloc o1).alloc o2).alloc o3).alloc o4).heap.size = w.heap.size + 4 := by
  refine ⟨?_, ?_, ?_, ?_, by simp⟩
  · rw [Below.heap_alloc _ _ _ (by simp only [World.size_alloc]; omega), Below.heap_alloc _ _ _ (by simp only [World.size_alloc]; omega), Below.heap_alloc _ _ _ (by simp)]; exact heap_alloc_new w _
  · rw [Below.heap_alloc _ _ _ (by simp only [World.size_alloc]; omega), Below.heap_alloc _ _ _ (by simp)]
    have := heap_alloc_new (w.alloc o1) o2
    simpa using this
  · rw [Below.heap_alloc _ _ _ (by simp)]
    have := heap_alloc_new ((w.alloc o1).alloc o2) o3
    simpa using this
  · have := heap_alloc_new (((w.alloc o1).alloc o2).alloc o3) o4
    simpa using this

theorem below_four (w : World) (o1 o2 o3 o4 : Obj) : Below w.heap.size w ((((w.alloc o1).alloc o2).alloc o3).alloc o4) :=
  ((((Below.refl _ _).alloc (Nat.le_refl _) _).alloc (by simp only [World.size_alloc]; omega) _).alloc (by simp only [World.size_alloc]; omega) _).alloc (by simp only [World.size_alloc]; omega) _

theorem ninv_start {wr : World} {x : Nat} {id n : Int} {L lb sb ab : Nat} (hb : wr.heap[x + 3]? = some (.cells (loopsCells id n L lb sb ab) 65 (0, 0)))
    (hl : wr.heap[lb]? = some (.cells (madeCells #[.pointer none] L) 39 (0, 0))) (hs : wr.heap[sb]? = some (.cells (madeCells #[.int .i64 0, .pointer none] (L * 2)) 75 (0, 0))) (ha : wr.heap[ab]? = some (.cells (madeCells #[.bool false] L) 4 (0, 0)))
    (hz : wr.heap.size = x + 4) (h : (x ≤ lb ∧ lb < x + 3) ∧ (x ≤ sb ∧ sb < x + 3) ∧ (x ≤ ab ∧ ab < x + 3) ∧ lb ≠ sb ∧ lb ≠ ab ∧ sb ≠ ab) : NInv wr x id n L 0 lb sb ab := by
  obtain ⟨⟨h1, h2⟩, ⟨h3, h4⟩, ⟨h5, h6⟩, h7, h8, h9⟩ := h
  refine ⟨hb, ⟨_, hl, size_madeCells _ _, fun i hi => ?_⟩, ⟨_, hs, size_madeCells _ _, fun i hi => made_two L i hi⟩, ⟨_, ha, size_madeCells _ _, fun i hi => ?_⟩, fun c hc => by omega, by omega, h1, h2, h3, h4, h5, h6, h7, h8, h9⟩
  · simp [madeCells, hi, Nat.mod_one, lfun]
  · simp [madeCells, hi, Nat.mod_one]

theorem NInv.b2 {wr : World} {x : Nat} {id n : Int} {L k lb sb ab : Nat} (h : NInv wr x id n L k lb sb ab) : wr.cell? ⟨x + 3, 2, none⟩ = some (.slice (some ⟨lb, 0, none⟩) L L) := by unfold World.cell?; simp [h.box, loopsCells]
theorem NInv.b3 {wr : World} {x : Nat} {id n : Int} {L k lb sb ab : Nat} (h : NInv wr x id n L k lb sb ab) : wr.cell? ⟨x + 3, 3, none⟩ = some (.slice (some ⟨sb, 0, none⟩) L L) := by unfold World.cell?; simp [h.box, loopsCells]
theorem NInv.b4 {wr : World} {x : Nat} {id n : Int} {L k lb sb ab : Nat} (h : NInv wr x id n L k lb sb ab) : wr.cell? ⟨x + 3, 4, none⟩ = some (.slice (some ⟨ab, 0, none⟩) L L) := by unfold World.cell?; simp [h.box, loopsCells]

theorem ninv_step {wr : World} {x : Nat} {id n : Int} {L k lb sb ab : Nat} (h : NInv wr x id n L k lb sb ab) (hk : k < L) :
    NInv (((mkLoop wr id n).setCell ⟨lb, k, none⟩ (.pointer (some ⟨wr.heap.size + 2, 0, none⟩))).setCell ⟨sb, k * 2, none⟩ (.int .i64 ((k : Int) + 1))) x id n L (k + 1) lb sb ab := by
  have hz := h.size
  have l1 := h.l1
  have l2 := h.l2
  have s1 := h.s1
  have s2 := h.s2
  have a1 := h.a1
  have a2 := h.a2
  have ls := h.ls
  have la := h.la
  have sa := h.sa
  have hset : ∀ j, j ≠ lb → j ≠ sb → (((mkLoop wr id n).setCell ⟨lb, k, none⟩ (.pointer (some ⟨wr.heap.size + 2, 0, none⟩))).setCell ⟨sb, k * 2, none⟩ (.int .i64 ((k : Int) + 1))).heap[j]? = (mkLoop wr id n).heap[j]? := fun j h1 h2 => by
    rw [Below.heap_setCell _ _ _ _ (by exact h2), Below.heap_setCell _ _ _ _ (by exact h1)]
  refine ⟨?_, ?_, ?_, ?_, ?_, ?_, l1, l2, s1, s2, a1, a2, ls, la, sa⟩
  · rw [hset _ (by omega) (by omega), low_mkLoop _ _ _ _ (by omega)]; exact h.box
  · refine ((((h.lrow.of_block (low_mkLoop _ _ _ _ (by omega))).set k _).setOther (by exact ls) _)).congr (fun c hc => ?_)
    unfold lfun
    by_cases e : c = k
    · subst e; rw [if_pos rfl, if_pos (by omega), hz]
    · rw [if_neg e]
      by_cases e2 : c < k
      · rw [if_pos e2, if_pos (by omega)]
      · rw [if_neg e2, if_neg (by omega)]
  · refine ((((h.srow.of_block (low_mkLoop _ _ _ _ (by omega))).setOther (by exact fun e => ls e.symm) _).set (k * 2) _)).congr (fun j hj => ?_)
    unfold sfun
    by_cases e : j = k * 2
    · subst e
      rw [if_pos rfl, if_pos (by omega), if_pos (by omega), show k * 2 / 2 = k by omega]; rfl
    · rw [if_neg e]
      by_cases e2 : j % 2 = 0
      · rw [if_pos e2, if_pos e2]
        by_cases e3 : j / 2 < k
        · rw [if_pos e3, if_pos (by omega)]
        · rw [if_neg e3, if_neg (by omega)]
      · rw [if_neg e2, if_neg e2]
  · exact h.arow.of_block ((hset _ (by omega) (by omega)).trans (low_mkLoop _ _ _ _ (by omega)))
  · intro c hc
    by_cases e : c = k
    · subst e
      have := loopAt_mkLoop wr id n
      rw [hz] at this
      exact this.keep (fun j h1 h2 => hset j (by omega) (by omega))
    · exact (h.loops c (by omega)).keep (fun j h1 h2 => (hset j (by omega) (by omega)).trans (low_mkLoop _ _ _ _ (by omega)))
  · simp only [World.setCell, Array.size_modify, size_mkLoop]; omega

theorem Try.info39 : (Try.prog.info? 39).map (fun i => (i.zero, i.size, i.bytes)) = some (some (.pointer none), 1, 8) := by kernel_rfl
theorem Try.info75 : (Try.prog.info? 75).map (fun i => (i.zero, i.size, i.bytes)) = some (some (.agg #[.int .i64 0, .pointer none]), 2, 16) := by kernel_rfl
theorem Try.info4 : (Try.prog.info? 4).map (fun i => (i.zero, i.size, i.bytes)) = some (some (.bool false), 1, 1) := by kernel_rfl
theorem Try.info35 : (Try.prog.info? 35).map (fun i => (i.zero, i.size, i.bytes)) = some (some .nilIface, 1, 16) := by kernel_rfl
theorem Try.info3 : (Try.prog.info? 3).map (fun i => (i.zero, i.size, i.bytes)) = some (some (.int .i64 0), 1, 8) := by kernel_rfl

theorem make61 (L : Nat) (hL : L ≤ 65536) (w : World) : (Instr.makeSlice 61 (.int .i64 (L : Int)) (.int .i64 (L : Int))).run Try.prog w = .ok (.slice (some ⟨w.heap.size, 0, none⟩) L L) (w.alloc (.cells (madeCells #[.pointer none] L) 39)) :=
  run_make_row' 61 39 (.pointer none) 8 Try.underlying61 Try.info39 rfl .i64 .i64 L (by omega) (by omega) w
theorem make63 (L : Nat) (hL : L ≤ 65536) (w : World) : (Instr.makeSlice 63 (.int .i64 (L : Int)) (.int .i64 (L : Int))).run Try.prog w = .ok (.slice (some ⟨w.heap.size, 0, none⟩) L L) (w.alloc (.cells (madeCells #[.bool false] L) 4)) :=
  run_make_row' 63 4 (.bool false) 1 Try.underlying63 Try.info4 rfl .i64 .i64 L (by omega) (by omega) w
theorem make62 (L : Nat) (hL : L ≤ 65536) (w : World) : (Instr.makeSlice 62 (.int .i64 (L : Int)) (.int .i64 (L : Int))).run Try.prog w = .ok (.slice (some ⟨w.heap.size, 0, none⟩) L L) (w.alloc (.cells (madeCells #[.int .i64 0, .pointer none] (L * 2)) 75)) := by
  obtain ⟨i, hi, hz⟩ := Option.map_eq_some_iff.1 Try.info75
  simp only [Prod.mk.injEq] at hz
  obtain ⟨h1, h2, h3⟩ := hz
  have hr := run_make (P := Try.prog) w 62 75 i (.agg #[.int .i64 0, .pointer none]) Try.underlying62 hi h1 .i64 .i64 L L (by omega) (Int.le_refl _) (by rw [h3]; omega) (by omega)
  simp only [Int.toNat_natCast, h2] at hr
  exact hr
end Go.Proofs.Qxb6603556a
