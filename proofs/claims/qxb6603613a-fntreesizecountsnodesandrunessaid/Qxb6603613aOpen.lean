/-
  DERIVED. The argument's tree, out of its reading as data.
-/
import Derived.Test.Qxb6603613aTree
import Derived.ChangeSame
import Derived.ChangeShapes
import Derived.ChangeArms
import Derived.Deep.Heap
import Derived.Deep.Slices
namespace Go.Proofs.Qxb6603613a
open Go.RowKit Go.Deep
set_option linter.unusedVariables false

theorem src_mono {w : World} {B : Nat} : ∀ (f : Nat) (v : Value), Src w B f v → Src w B (f + 1) v
  | 0, _, h => h.elim
  | f + 1, v, h => by
    rcases h with h | ⟨b, o, ro, rl, rc, so, sl, sc, V, h1, h2, h3⟩
    · exact Or.inl h
    · exact Or.inr ⟨b, o, ro, rl, rc, so, sl, sc, V, h1, h2, fun j hj => src_mono f _ (h3 j hj)⟩

theorem add_plain (b o i : Nat) : (⟨b, o, none⟩ : Addr).add i = ⟨b, o + i, none⟩ := by cases i <;> simp [Addr.add]
theorem Try.cells35 : Try.prog.cellsOf 35 = 1 := by kernel_rfl
theorem Try.cells71 : Try.prog.cellsOf 71 = 2 := by kernel_rfl
theorem Try.cells68 : Try.prog.cellsOf 68 = 1 := by kernel_rfl
theorem Try.cells69 : Try.prog.cellsOf 69 = 1 := by kernel_rfl

theorem src_of_trod {H : Type} {enc : TypeId × Value → H} {w : World} {sp : Nat → Bool} {hd : Bool} : ∀ (fuel : Nat) (v : Value) (x : DataW H × List MemPlace),
    DataW.trod enc Try.prog w 0 sp hd fuel 35 [v] = some x → Src w w.heap.size (fuel + 1) v := by
  intro fuel
  induction fuel using Nat.strongRecOn with
  | _ fuel ih =>
    intro v x h
    rcases DataW.trod_pointer Try.underlying35 h with ⟨h1, _⟩ | ⟨a, cs', y, m, rfl, h1, _, hcells, hy⟩
    · left; simpa using h1
    · obtain rfl : v = .pointer (some a) := by simpa using h1
      obtain ⟨_, _, hcell⟩ := World.cells?_some hcells
      rw [Try.cells71] at hcell
      obtain ⟨xs, m', rfl, _, hlen, hxl, hf⟩ := DataW.trod_struct Try.underlying71 hy
      rw [Try.cells71] at hlen
      match cs', hlen with
      | [v0, v1], _ =>
        have q0 : DataW.trod enc Try.prog w 0 sp hd m' 68 (([v0, v1].drop 0).take (Try.prog.cellsOf 68)) = xs[0]? := hf 0 _ rfl
        have q1 : DataW.trod enc Try.prog w 0 sp hd m' 69 (([v0, v1].drop 1).take (Try.prog.cellsOf 69)) = xs[1]? := hf 1 _ rfl
        rw [Try.cells68] at q0
        rw [Try.cells69] at q1
        have g0 : DataW.trod enc Try.prog w 0 sp hd m' 68 [v0] = xs[0]? := q0
        have g1 : DataW.trod enc Try.prog w 0 sp hd m' 69 [v1] = xs[1]? := q1
        clear q0 q1
        have hx0 : ∃ y0, xs[0]? = some y0 := ⟨xs[0]'(by rw [hxl]; decide), List.getElem?_eq_getElem _⟩
        have hx1 : ∃ y1, xs[1]? = some y1 := ⟨xs[1]'(by rw [hxl]; decide), List.getElem?_eq_getElem _⟩
        obtain ⟨y0, hx0⟩ := hx0
        obtain ⟨y1, hx1⟩ := hx1
        rw [hx0] at g0
        rw [hx1] at g1
        have e0 := hcell 0 (by omega)
        have e1 := hcell 1 (by omega)
        obtain ⟨b, o, spot⟩ := a
        have hspot : spot = none := by simpa [Addr.add] using World.cell?_spot e0
        subst hspot
        rw [add_plain] at e0 e1
        simp only [Nat.add_zero, List.getElem?_cons_zero, List.getElem?_cons_succ] at e0 e1
        have hb : b < w.heap.size := World.block_lt_of_cell? _ _ e0
        obtain ⟨ro, rl, rc, rfl⟩ : ∃ ro rl rc, v0 = .slice ro rl rc := by
          rcases DataW.trod_slice Try.underlying68 g0 with ⟨h2, _⟩ | ⟨a', l', c', _, _, _, _, h2, _⟩
          · exact ⟨_, _, _, by simpa using h2⟩
          · exact ⟨_, _, _, by simpa using h2⟩
        rcases DataW.trod_slice Try.underlying69 g1 with ⟨h2, _⟩ | ⟨a', l', c', elems, rest, k, rfl, h2, _, _, hlc, _, hel, hels, _⟩
        · obtain rfl : v1 = .slice none 0 0 := by simpa using h2
          exact Or.inr ⟨b, o, ro, rl, rc, none, 0, 0, fun _ => undef, rfl, ⟨hb, e0, e1, Or.inl rfl, fun _ => ⟨rfl, rfl⟩⟩, fun j hj => by omega⟩
        · obtain rfl : v1 = .slice (some a') l' c' := by simpa using h2
          rw [Try.cells35] at hels
          have hk : ∀ j, j < l' → ∃ u z, w.cell? (a'.add j) = some u ∧ DataW.trod enc Try.prog w 0 sp hd k 35 [u] = some z := by
            intro j hj
            have h3 := hels j hj
            rw [Nat.mul_one] at h3
            have h4 : elems[j]? = some (elems[j]'(by omega)) := List.getElem?_eq_getElem _
            rw [h4] at h3
            obtain ⟨cs2, h5, h6⟩ := Option.bind_eq_some_iff.1 h3
            obtain ⟨_, hl2, h7⟩ := World.cells?_some h5
            match cs2, hl2 with
            | [u], _ =>
              refine ⟨u, _, ?_, h6⟩
              have := h7 0 (by omega)
              have e : (a'.add j).add 0 = a'.add j := by simp [Addr.add]
              rw [e] at this
              exact this
          have hkk : ∀ j, j < l' → ∃ u, w.cell? (a'.add j) = some u ∧ Src w w.heap.size (k + 1) u := by
            intro j hj
            obtain ⟨u, z, h3, h4⟩ := hk j hj
            exact ⟨u, h3, ih k (by omega) u z h4⟩
          have hV : ∃ V : Nat → Value, ∀ j, j < l' → w.cell? (a'.add j) = some (V j) ∧ Src w w.heap.size (k + 1) (V j) := by
            refine ⟨fun j => (w.cell? (a'.add j)).getD undef, fun j hj => ?_⟩
            obtain ⟨u, h3, h4⟩ := hkk j hj
            show w.cell? (a'.add j) = some ((w.cell? (a'.add j)).getD undef) ∧ Src w w.heap.size (k + 1) ((w.cell? (a'.add j)).getD undef)
            rw [h3]; exact ⟨rfl, h4⟩
          obtain ⟨V, hV⟩ := hV
          refine src_mono _ _ (src_mono _ _ (Or.inr ⟨b, o, ro, rl, rc, some a', l', c', V, rfl, ⟨hb, e0, e1, ?_, fun h => by cases h⟩, fun j hj => (hV j hj).2⟩))
          rcases Nat.eq_zero_or_pos l' with h0 | h0
          · exact Or.inl h0
          · right
            have h3 := (hV 0 h0).1
            obtain ⟨sb, sof, spot⟩ := a'
            have hspot : spot = none := by simpa [Addr.add] using World.cell?_spot h3
            subst hspot
            refine ⟨sb, sof, rfl, ?_, fun j hj => ?_⟩
            · rw [add_plain] at h3; exact World.block_lt_of_cell? _ _ h3
            · have := (hV j hj).1
              rw [add_plain] at this
              exact this
end Go.Proofs.Qxb6603613a
