/-
  DERIVED. Maps keyed by pointers: a key above all the map's keys is absent; an update with such a key lays one entry more. No walk here.
-/
import Derived.Test.Qxb6603556aMem
import Derived.LaidEqlPtr
import Derived.MapKept
import Derived.ChangeMaps4
namespace Go.Proofs.Qxb6603556a
open Go.RowKit
open Go.ChangeMaps (setBlock)
set_option linter.unusedVariables false

/-- The map in block m: its keys are pointers to blocks below X, each a row of cells of the call's own. -/
structure MapLt (w : World) (m X : Nat) : Prop where
  at_ : ∃ es clock, w.heap[m]? = some (.map es clock) ∧ ∀ e ∈ es.toList, ∃ b, e.key = .pointer (some ⟨b, 0, none⟩) ∧ b < X ∧ ∃ c t, w.heap[b]? = some (.cells c t (0, 0))

theorem MapLt.up {w : World} {m X Y : Nat} (h : MapLt w m X) (hXY : X ≤ Y) : MapLt w m Y := by
  obtain ⟨es, clock, h1, h2⟩ := h.at_
  exact ⟨es, clock, h1, fun e he => by obtain ⟨b, h3, h4, h5⟩ := h2 e he; exact ⟨b, h3, by omega, h5⟩⟩

theorem run_equal_ptr {P : Program} (w : World) {tp te : TypeId} {j : TypeInfo} {a b : Addr} {ca cb : Array Value} {ta tb : TypeId} (hp : P.underlying tp = some (.pointer te)) (hte : P.info? te = some j) (hsz : j.size ≠ 0)
    (hne : a ≠ b) (ha : w.heap[a.block]? = some (.cells ca ta (0, 0))) (hb : w.heap[b.block]? = some (.cells cb tb (0, 0))) :
    (Op.equal tp (.pointer (some a)) (.pointer (some b))).run P w = .ok false w := by
  have h : ∀ d : Nat, (Op.equalIn (d + 1) tp (.pointer (some a)) (.pointer (some b))).run P w = .ok false w := fun d => by
    simp [Op.equalIn, run_underlying hp, sizeOf, typeInfo, hte, hsz, run_sameAddr_other w hne ha hb]
  exact h 9999

theorem run_find_ptr {P : Program} (w : World) {tp te : TypeId} {j : TypeInfo} {k X : Nat} {ck : Array Value} {tk : TypeId} (hp : P.underlying tp = some (.pointer te)) (hte : P.info? te = some j) (hsz : j.size ≠ 0)
    (hk : w.heap[k]? = some (.cells ck tk (0, 0))) (hX : X ≤ k) :
    ∀ (es : List MapEntry) (i : Nat), (∀ e ∈ es, ∃ b, e.key = .pointer (some ⟨b, 0, none⟩) ∧ b < X ∧ ∃ c t, w.heap[b]? = some (.cells c t (0, 0))) →
      (Instr.findAsking tp (.pointer (some ⟨k, 0, none⟩)) es i).run P w = .ok none w
  | [], i, _ => by simp [Instr.findAsking]
  | e :: es, i, hall => by
    obtain ⟨b, h1, h2, c, t, h3⟩ := hall e (by simp)
    have he := run_equal_ptr (P := P) w (a := ⟨k, 0, none⟩) (b := ⟨b, 0, none⟩) hp hte hsz (by intro h; cases h; omega) hk h3
    have ih := run_find_ptr w hp hte hsz hk hX es (i + 1) (fun y hy => hall y (by simp [hy]))
    simp [Instr.findAsking, h1, he, ih]

theorem run_findKey_ptr {P : Program} (w : World) {tp te : TypeId} {j : TypeInfo} {k X : Nat} {ck : Array Value} {tk : TypeId} (hp : P.underlying tp = some (.pointer te)) (hte : P.info? te = some j) (hsz : j.size ≠ 0)
    (hk : w.heap[k]? = some (.cells ck tk (0, 0))) (hX : X ≤ k) (es : List MapEntry) (hall : ∀ e ∈ es, ∃ b, e.key = .pointer (some ⟨b, 0, none⟩) ∧ b < X ∧ ∃ c t, w.heap[b]? = some (.cells c t (0, 0))) :
    (Instr.findKey tp (.pointer (some ⟨k, 0, none⟩)) es).run P w = .ok none w := by
  cases es with
  | nil => simp [Instr.findKey, run_underlying hp, Instr.findNow]
  | cons e es =>
    obtain ⟨b, h1, h2, c, t, h3⟩ := hall e (by simp)
    have := run_find_ptr (P := P) w hp hte hsz hk hX (e :: es) 0 hall
    simp [Instr.findKey, run_underlying hp, Instr.findNow, Instr.sameNow, this]

theorem run_checkKey_ptr {P : Program} (w : World) {tp te : TypeId} (hp : P.underlying tp = some (.pointer te)) (em : Bool) (a : Addr) : (Instr.checkKey em 10000 tp (.pointer (some a))).run P w = .ok () w := by
  have h : ∀ n, (Instr.checkKey em (n + 1) tp (.pointer (some a))).run P w = .ok () w := fun n => by simp [Instr.checkKey, run_underlying hp]
  exact h 9999

theorem look_new {P : Program} (w : World) {mt tp te : TypeId} {j : TypeInfo} {i4 : TypeInfo} {m k X : Nat} {ck : Array Value} {tk : TypeId} (hm : P.underlying mt = some (.map tp 4)) (hp : P.underlying tp = some (.pointer te)) (hte : P.info? te = some j) (hsz : j.size ≠ 0)
    (h4 : P.info? 4 = some i4) (hz4 : i4.zero = some (.bool false)) (hk : w.heap[k]? = some (.cells ck tk (0, 0))) (hX : X ≤ k) (h : MapLt w m X) :
    (Instr.lookup mt (.map (some m)) (.pointer (some ⟨k, 0, none⟩)) false).run P w = .ok (.bool false) w := by
  obtain ⟨es, clock, h1, h2⟩ := h.at_
  have hf := run_findKey_ptr (P := P) w hp hte hsz hk hX es.toList h2
  simp [Instr.lookup, run_underlying hm, MapKept.run_getObj_map h1, run_checkKey_ptr w hp, hf, zeroValue, typeInfo, h4, hz4]

theorem update_new {P : Program} (w : World) {mt tp te : TypeId} {j : TypeInfo} {m k X : Nat} {ck : Array Value} {tk : TypeId} (hm : P.underlying mt = some (.map tp 4)) (hp : P.underlying tp = some (.pointer te)) (hte : P.info? te = some j) (hsz : j.size ≠ 0)
    (hk : w.heap[k]? = some (.cells ck tk (0, 0))) (hX : X ≤ k) (h : MapLt w m X) :
    ∃ o, (Instr.mapUpdate mt (.map (some m)) (.pointer (some ⟨k, 0, none⟩)) (.bool true)).run P w = .ok () (setBlock w m o) ∧ MapLt (setBlock w m o) m (k + 1) := by
  obtain ⟨es, clock, h1, h2⟩ := h.at_
  have hf := run_findKey_ptr (P := P) w hp hte hsz hk hX es.toList h2
  have hmlt : m < w.heap.size := by
    rcases Nat.lt_or_ge m w.heap.size with h3 | h3
    · exact h3
    · rw [Array.getElem?_eq_none h3] at h1; cases h1
  refine ⟨.map (es.push { key := .pointer (some ⟨k, 0, none⟩), val := .bool true, born := clock }) (clock + 1), ?_, ?_⟩
  · simp [Instr.mapUpdate, run_underlying hm, MapKept.run_getObj_map h1, run_checkKey_ptr w hp, hf, MapKept.run_setObj_map _ h1, setBlock]
  · have hne : ∀ (b : Nat) (c : Array Value) (t : TypeId), w.heap[b]? = some (.cells c t (0, 0)) → b ≠ m := fun b c t hb e => by subst e; rw [h1] at hb; cases hb
    refine ⟨_, _, by simp [setBlock, hmlt]; exact ⟨rfl, rfl⟩, fun e he => ?_⟩
    have hkeep : ∀ (b : Nat) (c : Array Value) (t : TypeId), w.heap[b]? = some (.cells c t (0, 0)) → ∃ c t, (setBlock w m (.map (es.push { key := .pointer (some ⟨k, 0, none⟩), val := .bool true, born := clock }) (clock + 1))).heap[b]? = some (.cells c t (0, 0)) := fun b c t hb => by
      refine ⟨c, t, ?_⟩
      simp only [setBlock]
      rw [Array.getElem?_setIfInBounds_ne (by exact fun e => hne b c t hb e.symm)]
      exact hb
    simp only [Array.toList_push, List.mem_append, List.mem_singleton] at he
    rcases he with he | he
    · obtain ⟨b, h3, h4, c, t, h5⟩ := h2 e he
      exact ⟨b, h3, by omega, hkeep b c t h5⟩
    · subst he
      exact ⟨k, rfl, by omega, hkeep k ck tk hk⟩
end Go.Proofs.Qxb6603556a
