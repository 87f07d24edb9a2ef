/-
  DERIVED. The walk of 'zzTreeToRegexp' (11).
-/
import Derived.Test.Qxb6603613aLInv
namespace Go.Proofs.Qxb6603613a
open Go.RowKit
set_option linter.unusedVariables false

theorem Try.info38 : (Try.prog.info? 38).map (fun i => (i.zero, i.size, i.bytes)) = some (some (.pointer none), 1, 8) := by kernel_rfl

set_option maxHeartbeats 400000 in
theorem build_nil (B bb f : Nat) (w : World) (n r s : Nat) (hbud : Bud w bb n r s true) :
    Calls Try.prog 11 #[.pointer none, .pointer (some ⟨bb, 0, none⟩)] w (BPost bb B f (.pointer none) n r w) := by
  have k3 := hbud.c3
  have kz := hbud.fz 3
  have HB : Hid (Bud w bb n r s true) := hbud
  clear hbud
  go_enter Try.func11, Try.ntmps11
  go_wp2
  go_ret
  exact bpost_fail ((Kept.refl _ _).set 3 _) (HB.out.set3 false) _

set_option maxHeartbeats 400000 in
theorem build_wide (B bb f b o : Nat) (ro : Option Addr) (rl rc : Nat) (so : Option Addr) (sl sc : Nat) (V : Nat → Value) (w : World) (n r s : Nat) (hnode : SrcNode w B b o ro rl rc so sl sc V) (hbud : Bud w bb n r s true) (hw : 131072 < rl ∨ (rl ≤ 131072 ∧ 32768 < sl)) :
    Calls Try.prog 11 #[.pointer (some ⟨b, o, none⟩), .pointer (some ⟨bb, 0, none⟩)] w (BPost bb B f (.pointer (some ⟨b, o, none⟩)) n r w) := by
  have k3 := hbud.c3
  have kz := hbud.fz 3
  have c0 := hnode.rune
  have c1 := hnode.sub
  have HB : Hid (Bud w bb n r s true) := hbud
  clear hbud hnode
  rcases hw with hw | ⟨hw1, hw2⟩
  · go_enter Try.func11, Try.ntmps11
    go_wp2
    go_ret
    exact bpost_fail ((Kept.refl _ _).set 3 _) (HB.out.set3 false) _
  · go_enter Try.func11, Try.ntmps11
    go_wp2
    go_ret
    exact bpost_fail ((Kept.refl _ _).set 3 _) (HB.out.set3 false) _

set_option maxRecDepth 100000 in
set_option maxHeartbeats 400000 in
theorem build_leaf (B bb f b o : Nat) (ro : Option Addr) (rl rc : Nat) (so : Option Addr) (sl sc : Nat) (V : Nat → Value) (w : World) (n r s : Nat) (hnode : SrcNode w B b o ro rl rc so sl sc V) (hB : B ≤ bb) (hbb : bb < w.heap.size) (hbud : Bud w bb n r s true)
    (hn : n ≤ 32768) (hr : r ≤ 131072) (hs : s ≤ 32768) (hrl : rl ≤ 131072) (hsl : sl ≤ 0) :
    Calls Try.prog 11 #[.pointer (some ⟨b, o, none⟩), .pointer (some ⟨bb, 0, none⟩)] w (BPost bb B (f + 1) (.pointer (some ⟨b, o, none⟩)) n r w) := by
  have k0 := hbud.c0
  have k1 := hbud.c1
  have k3 := hbud.c3
  have kz0 := hbud.fz 0
  have kz1 := hbud.fz 1
  have c0 := hnode.rune
  have c1 := hnode.sub
  have hne : b ≠ bb := by have := hnode.lt; omega
  have HB : Hid (Bud w bb n r s true) := hbud
  have HN : Hid (SrcNode w B b o ro rl rc so sl sc V) := hnode
  clear hbud hnode
  go_enter Try.func11, Try.ntmps11
  go_wp2
  go_region
  obtain ⟨w2, hw2⟩ : ∃ w2, w2 = ((w.setCell ⟨bb, 0, none⟩ (.int .i64 ((n : Int) + 1))).setCell ⟨bb, 1, none⟩ (.int .i64 ((r : Int) + (rl : Int)))).drew := ⟨_, rfl⟩
  rw [← hw2]
  have HB2 : Hid (Bud w2 bb ((n : Int) + 1) ((r : Int) + (rl : Int)) s true) := by unfold Hid; rw [hw2]; exact ((HB.out.set0 _).set1 _).drew
  have HK2 : Hid (Kept bb w w2) := by unfold Hid; rw [hw2]; exact (((Kept.refl _ _).set 0 _).set 1 _).drew
  clear hw2 k0 k1 k3 kz0 kz1 c0 c1
  have HN2 : Hid (SrcNode w2 B b o ro rl rc so sl sc V) := srcNode_carry (HK2.out.low hB hbb) HN.out
  have k0 := HB2.out.c0
  have k1 := HB2.out.c1
  have k2 := HB2.out.c2
  have k3 := HB2.out.c3
  have kz2 := HB2.out.fz 2
  have kz3 := HB2.out.fz 3
  have c0 := HN2.out.rune
  have c1 := HN2.out.sub
  by_cases h1 : 32768 < n + 1
  · have h1' : decide ((32768 : Int) < (n : Int) + 1) = true := by simp; omega
    go_wp2
    go_ret
    exact bpost_fail (HK2.out.set 3 _) (HB2.out.set3 false) _
  · have h1' : decide ((32768 : Int) < (n : Int) + 1) = false := by simp; omega
    by_cases h2 : 131072 < r + rl
    · have h2' : decide ((131072 : Int) < (r : Int) + (rl : Int)) = true := by simp; omega
      go_wp2
      go_ret
      exact bpost_fail (HK2.out.set 3 _) (HB2.out.set3 false) _
    · have h2' : decide ((131072 : Int) < (r : Int) + (rl : Int)) = false := by simp; omega
      have hb2 : b < w2.heap.size := by have := HK2.out.size; have := HN.out.lt; omega
      have hbb2 : bb < w2.heap.size := by have := HK2.out.size; omega
      go_wp2
      go_ret
      have hs0 : sl = 0 := by omega
      subst hs0
      have hnb : n + (1 + 0) ≤ 32768 := by omega
      refine ⟨_, rfl, HK2.out.alloc _, Or.inr ⟨1 + 0, rl + 0, s, ?_, by omega, by omega, hs, ⟨b, o, ro, rl, rc, so, 0, sc, V, fun _ => 0, fun _ => 0, rfl, HN.out, fun j hj => by omega, rfl, rfl⟩, ?_⟩⟩
      · exact HB2.out.block (Below.heap_alloc _ _ _ hbb2)
      · have hr := ReAt.new w2 3 (.slice none 0 0) (.slice ro rl rc)
        exact ⟨w2.heap.size, ro, rl, rc, none, 0, V, fun _ => 0, fun _ => 0, rfl, HK2.out.size, hr.c4, hr.c2, Or.inl rfl, fun j hj => by omega, rfl, rfl⟩

set_option maxRecDepth 100000 in
set_option maxHeartbeats 400000 in
theorem build_over (B bb f b o : Nat) (ro : Option Addr) (rl rc : Nat) (sb sof : Nat) (sl sc : Nat) (V : Nat → Value) (w : World) (n r s : Nat) (hnode : SrcNode w B b o ro rl rc (some ⟨sb, sof, none⟩) sl sc V) (hB : B ≤ bb) (hbb : bb < w.heap.size) (hbud : Bud w bb n r s true)
    (hn : n ≤ 32768) (hr : r ≤ 131072) (hs : s ≤ 32768) (hrl : rl ≤ 131072) (hsl : sl ≤ 32768) (h3 : 0 < sl) (hsb : sb < B) (hkids : ∀ j, j < sl → w.cell? ⟨sb, sof + j, none⟩ = some (V j)) (hsrc : ∀ j, j < sl → Src w B f (V j))
    (IH : Hid (∀ (v : Value) (w : World) (n r s : Nat), Src w B f v → bb < w.heap.size → Bud w bb n r s true → n ≤ 32768 → r ≤ 131072 → s ≤ 32768 → Calls Try.prog 11 #[v, .pointer (some ⟨bb, 0, none⟩)] w (BPost bb B f v n r w))) :
    Calls Try.prog 11 #[.pointer (some ⟨b, o, none⟩), .pointer (some ⟨bb, 0, none⟩)] w (BPost bb B (f + 1) (.pointer (some ⟨b, o, none⟩)) n r w) := by
  have k0 := hbud.c0
  have k1 := hbud.c1
  have k3 := hbud.c3
  have kz0 := hbud.fz 0
  have kz1 := hbud.fz 1
  have c0 := hnode.rune
  have c1 := hnode.sub
  have hne : b ≠ bb := by have := hnode.lt; omega
  have HB : Hid (Bud w bb n r s true) := hbud
  have HN : Hid (SrcNode w B b o ro rl rc (some ⟨sb, sof, none⟩) sl sc V) := hnode
  have HKI : Hid (∀ j, j < sl → w.cell? ⟨sb, sof + j, none⟩ = some (V j)) := hkids
  have HSR : Hid (∀ j, j < sl → Src w B f (V j)) := hsrc
  clear hbud hnode hkids hsrc
  go_enter Try.func11, Try.ntmps11
  go_wp2
  go_region
  obtain ⟨w2, hw2⟩ : ∃ w2, w2 = ((w.setCell ⟨bb, 0, none⟩ (.int .i64 ((n : Int) + 1))).setCell ⟨bb, 1, none⟩ (.int .i64 ((r : Int) + (rl : Int)))).drew := ⟨_, rfl⟩
  rw [← hw2]
  have HB2 : Hid (Bud w2 bb ((n : Int) + 1) ((r : Int) + (rl : Int)) s true) := by unfold Hid; rw [hw2]; exact ((HB.out.set0 _).set1 _).drew
  have HK2 : Hid (Kept bb w w2) := by unfold Hid; rw [hw2]; exact (((Kept.refl _ _).set 0 _).set 1 _).drew
  clear hw2 k0 k1 k3 kz0 kz1 c0 c1
  have HN2 : Hid (SrcNode w2 B b o ro rl rc (some ⟨sb, sof, none⟩) sl sc V) := srcNode_carry (HK2.out.low hB hbb) HN.out
  have k0 := HB2.out.c0
  have k1 := HB2.out.c1
  have k2 := HB2.out.c2
  have k3 := HB2.out.c3
  have kz2 := HB2.out.fz 2
  have kz3 := HB2.out.fz 3
  have c0 := HN2.out.rune
  have c1 := HN2.out.sub
  by_cases h1 : 32768 < n + 1
  · have h1' : decide ((32768 : Int) < (n : Int) + 1) = true := by simp; omega
    go_wp2
    go_ret
    exact bpost_fail (HK2.out.set 3 _) (HB2.out.set3 false) _
  · have h1' : decide ((32768 : Int) < (n : Int) + 1) = false := by simp; omega
    by_cases h2 : 131072 < r + rl
    · have h2' : decide ((131072 : Int) < (r : Int) + (rl : Int)) = true := by simp; omega
      go_wp2
      go_ret
      exact bpost_fail (HK2.out.set 3 _) (HB2.out.set3 false) _
    · have h2' : decide ((131072 : Int) < (r : Int) + (rl : Int)) = false := by simp; omega
      have hb2 : b < w2.heap.size := by have := HK2.out.size; have := HN.out.lt; omega
      have hbb2 : bb < w2.heap.size := by have := HK2.out.size; omega
      go_wp2
      obtain ⟨w3, hw3⟩ : ∃ w3, w3 = w2.alloc (.cells (reCells 3 (.slice none 0 0) (.slice ro rl rc)) 79) := ⟨_, rfl⟩
      have hw3' : w3 = w2.alloc (.cells #[.int .u8 3, .int .u16 0, .slice none 0 0, .pointer none, .slice ro rl rc, .int .i32 0, .int .i32 0, .int .i64 0, .int .i64 0, .int .i64 0, .string { data := #[] }] 79) := hw3
      rw [← hw3']
      clear hw3'
      have HB3 : Hid (Bud w3 bb ((n : Int) + 1) ((r : Int) + (rl : Int)) s true) := by unfold Hid; rw [hw3]; exact HB2.out.block (Below.heap_alloc _ _ _ hbb2)
      have HK3 : Hid (Kept bb w w3) := by unfold Hid; rw [hw3]; exact HK2.out.alloc _
      have HR3 : Hid (ReAt w3 w2.heap.size 3 (.slice none 0 0) (.slice ro rl rc)) := by unfold Hid; rw [hw3]; exact ReAt.new _ _ _ _
      have hz3 : w3.heap.size = w2.heap.size + 1 := by rw [hw3]; simp
      clear hw3 k0 k1 k2 k3 kz2 kz3 c0 c1 HB2 HN2
      obtain ⟨b0, hb0⟩ : ∃ b0, b0 = w2.heap.size := ⟨_, rfl⟩
      rw [← hb0] at HR3 hz3 hb2 hbb2 ⊢
      have hb0w : w.heap.size ≤ b0 := by rw [hb0]; exact HK2.out.size
      clear hb0 HK2
      have HN3 : Hid (SrcNode w3 B b o ro rl rc (some ⟨sb, sof, none⟩) sl sc V) := srcNode_carry (HK3.out.low hB hbb) HN.out
      have k2 := HB3.out.c2
      have kz2 := HB3.out.fz 2
      have c1 := HN3.out.sub
      go_region
      obtain ⟨w4, hw4⟩ : ∃ w4, w4 = (w3.setCell ⟨bb, 2, none⟩ (.int .i64 ((s : Int) + (sl : Int)))).drew := ⟨_, rfl⟩
      rw [← hw4]
      have HB4 : Hid (Bud w4 bb ((n : Int) + 1) ((r : Int) + (rl : Int)) ((s : Int) + (sl : Int)) true) := by unfold Hid; rw [hw4]; exact (HB3.out.set2 _).drew
      have HK4 : Hid (Kept bb w w4) := by unfold Hid; rw [hw4]; exact (HK3.out.set 2 _).drew
      have HR4 : Hid (ReAt w4 b0 3 (.slice none 0 0) (.slice ro rl rc)) := by
        unfold Hid; rw [hw4]; exact HR3.out.keep (Below.heap_setCell _ _ _ _ (by show b0 ≠ bb; omega))
      have hz4 : w4.heap.size = b0 + 1 := by rw [hw4, ← hz3]; simp [World.setCell]
      clear hw4 k2 kz2 c1 HB3 HK3 HR3 HN3 hz3
      have HN4 : Hid (SrcNode w4 B b o ro rl rc (some ⟨sb, sof, none⟩) sl sc V) := srcNode_carry (HK4.out.low hB hbb) HN.out
      have k2 := HB4.out.c2
      have kz3 := HB4.out.fz 3
      have k3 := HB4.out.c3
      have c1 := HN4.out.sub
      have r0 := HR4.out.c0
      have r2 := HR4.out.c2
      have rz0 := HR4.out.fz 0
      have rz2 := HR4.out.fz 2
      by_cases h4 : 32768 < s + sl
      · go_wp2
        go_ret
        exact bpost_fail (HK4.out.set 3 _) (HB4.out.set3 false) _
      · obtain ⟨i0, hi, hz0, hz1, hz2⟩ := info_parts Try.info38
        go_wp2_with (at_make; refine wpList_make_full _ rfl _ _ 75 rfl (b0 + 1) 38 i0 (.pointer none) 1 Try.underlying75 hi hz0 hz1 _ _ _ _ sl rfl rfl rfl rfl ?m2 ?m3 ?m4 ?_)
        case m2 => rw [hz2]; omega
        case m3 => unfold maxLen; omega
        case m4 => simp [World.setCell]; omega
        intro w5 hown5 hgrow5
        have HS : Hid (LInv w (w5.setCell ⟨b0, 2, none⟩ (.slice (some ⟨b0 + 1, 0, none⟩) sl sl)) B bb b0 (b0 + 1) f n r ro rl rc sl V 0 (fun _ => 0) (fun _ => 0)) :=
          linv_start hbb hb0w (by omega) hz4 HK4.out HB4.out HR4.out (by omega) (by omega) (by omega) hgrow5 hown5
        have hsz4 : (w4.setCell ⟨b0, 0, none⟩ (.int .u8 18)).heap.size = b0 + 1 := by rw [← hz4]; simp [World.setCell]
        have HR5 : Hid (ReAt w5 b0 18 (.slice none 0 0) (.slice ro rl rc)) := (HR4.out.setOp 18).keep (hgrow5.block b0 (by omega) (by simp))
        have r2 := HR5.out.c2
        have rz2 := HR5.out.fz 2
        clear hown5 hgrow5 k2 kz3 k3 c1 r0 rz0 HN4 HB4 HR4 HK4 hsz4 hz4 HR5
        go_wp2
        go_loopw [6] (fun i wr => ∃ (k : Nat) (N C : Nat → Nat), i = .int .i64 k ∧ k ≤ sl ∧ LInv w wr B bb b0 (b0 + 1) f n r ro rl rc sl V k N C) (fun i _ => sl - (intOf i).toNat)
        case atStart => exact ⟨0, _, _, rfl, Nat.zero_le _, HS.out⟩
        case round =>
          clear HS r2 rz2
          obtain ⟨k, N, C, rfl, hk, hinv⟩ := hrel
          have HI : Hid (LInv w wr B bb b0 (b0 + 1) f n r ro rl rc sl V k N C) := hinv
          have hlow := hinv.kept.low hB hbb
          have HL : Hid (∀ k, k < B → wr.heap[k]? = w.heap[k]?) := hlow
          have HN6 : Hid (SrcNode wr B b o ro rl rc (some ⟨sb, sof, none⟩) sl sc V) := srcNode_carry hlow HN.out
          have c1 := HN6.out.sub
          clear hinv hlow
          by_cases hlt : k < sl
          · have ck : wr.cell? ⟨sb, sof + k, none⟩ = some (V k) := (World.cell?_of_block (w := w) (HL.out sb hsb)).trans (HKI.out k hlt)
            have HSk : Hid (Src wr B f (V k)) := src_carry HL.out f _ (HSR.out k hlt)
            obtain ⟨vk, hvk⟩ : ∃ vk, vk = V k := ⟨_, rfl⟩
            rw [← hvk] at ck HSk
            have HVK : Hid (vk = V k) := hvk
            clear hvk
            obtain ⟨s', hs', hbud⟩ := HI.out.bud
            have HB6 : Hid (Bud wr bb ((n + 1 + sumTo N k : Nat) : Int) ((r + rl + sumTo C k : Nat) : Int) (s' : Int) true) := hbud
            clear hbud
            have hbbr : bb < wr.heap.size := by have := HI.out.kept.size; omega
            go_wp2_with fail
            refine (IH.out vk wr _ _ _ HSk.out hbbr HB6.out HI.out.nb HI.out.rb hs').mono ?_
            intro e w7 hpost
            obtain ⟨p, rfl, hk7, hcase⟩ := hpost
            rcases hcase with ⟨n', r', s'', hb7⟩ | ⟨Ni, Ci, s'', hb7, hnb, hrb, hs'', hcnt, hdst⟩
            · have k3 := hb7.c3
              have HX : Hid (BPost bb B (f + 1) (.pointer (some ⟨b, o, none⟩)) n r w (.returned (.pointer none)) w7) := bpost_fail (HI.out.kept.trans hk7) hb7 none
              clear hb7 hk7
              go_wp2
              go_ret
              exact HX.out
            · have HX : Hid (LInv w (w7.setCell ⟨b0 + 1, k, none⟩ (.pointer p)) B bb b0 (b0 + 1) f n r ro rl rc sl V (k + 1) (upd N k Ni) (upd C k Ci)) :=
                linv_step hB hbb hb0w (by omega) HI.out hlt hk7 hb7 hnb hrb hs'' (HVK.out ▸ hcnt) hdst
              have k3 := hb7.c3
              have r2 : w7.cell? ⟨b0, 2, none⟩ = some (.slice (some ⟨b0 + 1, 0, none⟩) sl sl) := (HI.out.re.keep (hk7.block b0 HI.out.re.lt (by omega))).c2
              obtain ⟨xs, hown, _⟩ := HI.out.own
              have hown7 := own_carry hown (hk7.block (b0 + 1) HI.out.gl (by omega))
              have gz : w7.frozen? ⟨b0 + 1, k, none⟩ = false := hown7.frozenAt k
              have gc : w7.cell? ⟨b0 + 1, k, none⟩ = xs[k]? := hown7.cellAt k (by omega)
              have hxl : xs.length = sl := by have := hown.1; omega
              obtain ⟨u, hu⟩ : ∃ u, xs[k]? = some u := ⟨xs[k], List.getElem?_eq_getElem (by omega)⟩
              rw [hu] at gc
              clear hb7 hk7 hcnt hdst hown hown7 hu hnb hrb hs'' hxl HB6 HSk ck
              go_wp2
              go_roundw
              case rel => exact ⟨k + 1, _, _, by go_num, by omega, HX.out⟩
              case measure => simp [intOf]; omega
          · have hke : k = sl := by omega
            subst hke
            have HX := linv_done hb0w (by omega) HN.out HI.out
            have HY : Hid _ := HX
            clear HX
            go_wp2
            go_ret
            exact HY.out

theorem build_any (B bb : Nat) (hB : B ≤ bb) : ∀ (f : Nat) (v : Value) (w : World) (n r s : Nat), Src w B f v → bb < w.heap.size → Bud w bb n r s true → n ≤ 32768 → r ≤ 131072 → s ≤ 32768 →
    Calls Try.prog 11 #[v, .pointer (some ⟨bb, 0, none⟩)] w (BPost bb B f v n r w) := by
  intro f
  induction f with
  | zero => intro v w n r s h; exact h.elim
  | succ f ih =>
    intro v w n r s h hbb hbud hn hr hs
    rcases h with rfl | ⟨b, o, ro, rl, rc, so, sl, sc, V, rfl, hnode, hsrc⟩
    · exact build_nil B bb (f + 1) w n r s hbud
    · by_cases h1 : 131072 < rl
      · exact build_wide B bb (f + 1) b o ro rl rc so sl sc V w n r s hnode hbud (Or.inl h1)
      · by_cases h2 : 32768 < sl
        · exact build_wide B bb (f + 1) b o ro rl rc so sl sc V w n r s hnode hbud (Or.inr ⟨by omega, h2⟩)
        · by_cases h3 : 0 < sl
          · obtain ⟨sb, sof, rfl, hsb, hk⟩ := hnode.kids.resolve_left (by omega)
            exact build_over B bb f b o ro rl rc sb sof sl sc V w n r s hnode hB hbb hbud hn hr hs (by omega) (by omega) h3 hsb hk hsrc ih
          · exact build_leaf B bb f b o ro rl rc so sl sc V w n r s hnode hB hbb hbud hn hr hs (by omega) (by omega)
end Go.Proofs.Qxb6603613a
