/-
  DERIVED. The memory that 'Processes' makes, process by process. No walk here.
-/
import Derived.Test.Qxb6603556aMem
namespace Go.Proofs.Qxb6603556a
open Go.RowKit
set_option linter.unusedVariables false

/-- What 'NewLoops' has made, x its first block. -/
structure LoopsMem (w : World) (x : Nat) (id n : Int) (L lb sb ab : Nat) : Prop where
  box : w.heap[x + 3]? = some (.cells (loopsCells id n L lb sb ab) 65 (0, 0))
  lrow : w.rowIs lb 39 L (lfun x L)
  srow : w.rowIs sb 75 (L * 2) (sfun L)
  arow : w.rowIs ab 4 L (fun _ => .bool false)
  loops : ∀ c, c < L → LoopAt w (x + 4 + 3 * c) id n
  l1 : x ≤ lb
  l2 : lb < x + 3
  s1 : x ≤ sb
  s2 : sb < x + 3
  a1 : x ≤ ab
  a2 : ab < x + 3
theorem NInv.mem {w : World} {x : Nat} {id n : Int} {L lb sb ab : Nat} (h : NInv w x id n L L lb sb ab) : LoopsMem w x id n L lb sb ab :=
  ⟨h.box, h.lrow, h.srow, h.arow, h.loops, h.l1, h.l2, h.s1, h.s2, h.a1, h.a2⟩
theorem LoopsMem.keep {w w' : World} {x : Nat} {id n : Int} {L lb sb ab : Nat} (h : LoopsMem w x id n L lb sb ab) (hs : ∀ k, x ≤ k → k < x + 4 + 3 * L → w'.heap[k]? = w.heap[k]?) : LoopsMem w' x id n L lb sb ab := by
  have l1 := h.l1
  have l2 := h.l2
  have s1 := h.s1
  have s2 := h.s2
  have a1 := h.a1
  have a2 := h.a2
  exact ⟨(hs _ (by omega) (by omega)).trans h.box, h.lrow.of_block (hs _ (by omega) (by omega)), h.srow.of_block (hs _ (by omega) (by omega)), h.arow.of_block (hs _ (by omega) (by omega)),
    fun c hc => (h.loops c hc).keep (fun k h1 h2 => hs k (by omega) (by omega)), l1, l2, s1, s2, a1, a2⟩

def ledCells (L : Nat) (inst : Bool) (id v : Int) (y : Nat) : Array Value := #[.int .i64 (L : Int), .nilFunc, .bool inst, .int .i64 id, .int .i64 v, .pointer (some ⟨y + 3, 0, none⟩), .bool false]
/-- One process, y its first block, y + 4 + 3 L its last. -/
structure ProcAt (w : World) (y : Nat) (id n : Int) (L : Nat) : Prop where
  mem : ∃ lb sb ab, LoopsMem w y id n L lb sb ab
  led : ∃ v inst, w.heap[y + 4 + 3 * L]? = some (.cells (ledCells L inst id v y) 59 (0, 0))
theorem ProcAt.keep {w w' : World} {y : Nat} {id n : Int} {L : Nat} (h : ProcAt w y id n L) (hs : ∀ k, y ≤ k → k < y + 5 + 3 * L → w'.heap[k]? = w.heap[k]?) : ProcAt w' y id n L := by
  obtain ⟨lb, sb, ab, hm⟩ := h.mem
  obtain ⟨v, inst, hl⟩ := h.led
  exact ⟨⟨lb, sb, ab, hm.keep (fun k h1 h2 => hs k h1 (by omega))⟩, ⟨v, inst, (hs _ (by omega) (by omega)).trans hl⟩⟩

def pbase (x L i : Nat) : Nat := x + 2 + i * (5 + 3 * L)
theorem pbase_succ (x L i : Nat) : pbase x L (i + 1) = pbase x L i + 5 + 3 * L := by unfold pbase; rw [Nat.succ_mul]; omega
theorem pbase_le (x L : Nat) : ∀ (i j : Nat), i ≤ j → pbase x L i ≤ pbase x L j := by
  intro i j h
  unfold pbase
  have := Nat.mul_le_mul_right (5 + 3 * L) h
  omega
theorem pbase_lt (x L i j : Nat) (h : i < j) : pbase x L i + 5 + 3 * L ≤ pbase x L j := by
  rw [← pbase_succ]; exact pbase_le x L _ _ h
theorem pbase_ge (x L i : Nat) : x + 2 ≤ pbase x L i := by unfold pbase; omega
def pfun (x L i j : Nat) : Value := if j < i then .iface 32 (.pointer (some ⟨pbase x L j + 4 + 3 * L, 0, none⟩)) else .nilIface

structure PInv (wr : World) (x : Nat) (inst : Bool) (n : Int) (L N i : Nat) : Prop where
  abox : wr.heap[x]? = some (.cells #[.int .i64 (L : Int), .nilFunc, .bool inst] 26 (0, 0))
  prow : wr.rowIs (x + 1) 35 N (pfun x L i)
  procs : ∀ j, j < i → ProcAt wr (pbase x L j) ((j : Int) + 1) n L
  size : wr.heap.size = pbase x L i
theorem PInv.drew {wr : World} {x : Nat} {inst : Bool} {n : Int} {L N i : Nat} (h : PInv wr x inst n L N i) : PInv wr.drew x inst n L N i :=
  ⟨h.abox, h.prow, fun j hj => (h.procs j hj).keep (fun _ _ _ => rfl), h.size⟩
theorem PInv.a {wr : World} {x : Nat} {inst : Bool} {n : Int} {L N i : Nat} (h : PInv wr x inst n L N i) (k : Nat) : wr.cell? ⟨x, k, none⟩ = (#[Value.int .i64 (L : Int), .nilFunc, .bool inst])[k]? := by
  unfold World.cell?; simp [h.abox]

/-- What 'NewLoops' leaves. -/
structure NPost (w w' : World) (id n : Int) (L : Nat) : Prop where
  inv : ∃ lb sb ab, NInv w' w.heap.size id n L L lb sb ab
  low : Below w.heap.size w w'
theorem NPost.size {w w' : World} {id n : Int} {L : Nat} (h : NPost w w' id n L) : w'.heap.size = w.heap.size + 4 + 3 * L := by
  obtain ⟨lb, sb, ab, hi⟩ := h.inv; exact hi.size

theorem NPost.ofDrew {w w' : World} {id n : Int} {L : Nat} (h : NPost w.drew w' id n L) : NPost w w' id n L :=
  ⟨h.inv, ⟨h.low.os, h.low.tape, h.low.output, h.low.size, h.low.block⟩⟩
theorem NPost.cell {w w' : World} {id n : Int} {L : Nat} (h : NPost w w' id n L) {b o : Nat} {v : Value} (hb : b < w.heap.size) (hc : w.cell? ⟨b, o, none⟩ = some v) : w'.cell? ⟨b, o, none⟩ = some v :=
  (h.low.cell (p := ⟨b, o, none⟩) hb).trans hc
theorem NPost.frozen {w w' : World} {id n : Int} {L : Nat} (h : NPost w w' id n L) {b o : Nat} {v : Bool} (hb : b < w.heap.size) (hc : w.frozen? ⟨b, o, none⟩ = v) : w'.frozen? ⟨b, o, none⟩ = v :=
  (h.low.frozen (p := ⟨b, o, none⟩) hb).trans hc
theorem NPost.lt {w w' : World} {id n : Int} {L : Nat} (h : NPost w w' id n L) {b : Nat} (hb : b < w.heap.size) : b < w'.heap.size := Nat.lt_of_lt_of_le hb h.low.size

theorem pinv_start (w : World) (inst : Bool) (n : Int) (L N : Nat) : PInv ((w.alloc (.cells #[.int .i64 (L : Int), .nilFunc, .bool inst] 26)).alloc (.cells (madeCells #[.nilIface] N) 35)) w.heap.size inst n L N 0 := by
  refine ⟨?_, ?_, fun j hj => by omega, by simp [pbase]⟩
  · rw [Below.heap_alloc _ _ _ (by simp)]; exact heap_alloc_new w _
  · have := World.rowIs_made (w.alloc (.cells #[.int .i64 (L : Int), .nilFunc, .bool inst] 26)) .nilIface N 35
    simp only [World.size_alloc] at this
    exact this.congr (fun i hi => by unfold pfun; rw [if_neg (by omega)])

theorem pinv_step {wr w' : World} {x : Nat} {inst : Bool} {n : Int} {L N i : Nat} {v : Int} (h : PInv wr x inst n L N i) (hi : i < N) (hp : NPost wr w' ((i : Int) + 1) n L) :
    PInv ((w'.setCell ⟨x + 1, i, none⟩ (.iface 32 (.pointer (some ⟨w'.heap.size, 0, none⟩)))).alloc (.cells (ledCells L inst ((i : Int) + 1) v wr.heap.size) 59)) x inst n L N (i + 1) := by
  have hz := h.size
  have hz' := hp.size
  have hb := pbase_ge x L i
  obtain ⟨w2, hw2⟩ : ∃ w2, w2 = w'.setCell ⟨x + 1, i, none⟩ (.iface 32 (.pointer (some ⟨w'.heap.size, 0, none⟩))) := ⟨_, rfl⟩
  have hz2 : w2.heap.size = w'.heap.size := by rw [hw2]; simp [World.setCell]
  have hs2 : ∀ k, k ≠ x + 1 → w2.heap[k]? = w'.heap[k]? := fun k h1 => by rw [hw2]; exact Below.heap_setCell _ _ _ _ h1
  have hrow : w2.rowIs (x + 1) 35 N (fun j => if j = i then (.iface 32 (.pointer (some ⟨w'.heap.size, 0, none⟩))) else pfun x L i j) := by
    rw [hw2]; exact (h.prow.of_block (hp.low.block _ (by omega))).set i _
  rw [← hw2]
  clear hw2
  have hset : ∀ k, k ≠ x + 1 → k < w'.heap.size → (w2.alloc (.cells (ledCells L inst ((i : Int) + 1) v wr.heap.size) 59)).heap[k]? = w'.heap[k]? := fun k h1 h2 => by
    rw [Below.heap_alloc _ _ _ (by omega), hs2 k h1]
  have hlow : ∀ k, k ≠ x + 1 → k < wr.heap.size → (w2.alloc (.cells (ledCells L inst ((i : Int) + 1) v wr.heap.size) 59)).heap[k]? = wr.heap[k]? := fun k h1 h2 =>
    (hset k h1 (by omega)).trans (hp.low.block k h2)
  refine ⟨(hlow x (by omega) (by omega)).trans h.abox, ?_, ?_, ?_⟩
  · refine (hrow.alloc _).congr (fun j hj => ?_)
    unfold pfun
    by_cases e : j = i
    · subst e; rw [if_pos rfl, if_pos (by omega), hz', hz]
    · rw [if_neg e]
      by_cases e2 : j < i
      · rw [if_pos e2, if_pos (by omega)]
      · rw [if_neg e2, if_neg (by omega)]
  · intro j hj
    by_cases e : j = i
    · subst e
      obtain ⟨lb, sb, ab, hn⟩ := hp.inv
      rw [hz] at hn
      refine ⟨⟨lb, sb, ab, hn.mem.keep (fun k h1 h2 => hset k (by omega) (by omega))⟩, ⟨v, inst, ?_⟩⟩
      have := heap_alloc_new w2 (.cells (ledCells L inst ((j : Int) + 1) v wr.heap.size) 59)
      rw [hz2, hz', hz] at this
      rw [hz]
      exact this
    · have hb1 := pbase_ge x L j
      have hb2 := pbase_lt x L j i (by omega)
      exact (h.procs j (by omega)).keep (fun k h1 h2 => hlow k (by omega) (by omega))
  · rw [pbase_succ, ← hz]
    simp only [World.size_alloc]
    omega
theorem pbelow_step {w wr w' : World} {x i : Nat} {id n : Int} {L : Nat} {v : Value} {o : Obj} (hb : Below x w wr) (hx : x ≤ wr.heap.size) (hp : NPost wr w' id n L) : Below x w ((w'.setCell ⟨x + 1, i, none⟩ v).alloc o) := by
  have h1 : Below x w w' := hb.trans (hp.low.mono hx)
  have h2 := hp.low.size
  exact (h1.setCell (p := ⟨x + 1, i, none⟩) (by show x ≤ x + 1; omega) v).alloc (by simp [World.setCell]; omega) o
end Go.Proofs.Qxb6603556a
