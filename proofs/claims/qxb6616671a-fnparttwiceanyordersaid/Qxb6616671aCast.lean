/-
  ZZnewBroadcaster.
-/
import Derived.Test.Qxb6616671aKit
import Derived.Deep.RegionLaw
import Derived.Deep.DrawnRows
namespace Go.Proofs.Qxb6616671a
open Go.RowKit

theorem Try.info60 : (Try.prog.info? 60).map (fun i => (i.zero, i.size, i.bytes)) = some (some (.agg #[.string ByteArray.empty, .bool false, .slice none 0 0, .int .i64 0]), 4, 56) := by kernel_rfl
theorem Try.info34 : (Try.prog.info? 34).map (fun i => (i.zero, i.size, i.bytes)) = some (some (.pointer none), 1, 8) := by kernel_rfl


set_option maxRecDepth 100000 in
set_option maxHeartbeats 3200000 in
theorem newCast_any (a0 : Option Addr) (n0 c0 : Nat) (s0 : List ByteArray) (a1 : Option Addr) (n1 c1 : Nat) (s1 : List ByteArray) (a2 : Option Addr) (c2 : Nat) (z2 : List Int) (w : World)
    (h0 : HasStrs w a0 n0 c0 s0) (h1 : HasStrs w a1 n1 c1 s1) (h2 : HasNums w a2 n1 c2 z2) (k0 : n0 ≤ 65536) (k1 : n1 ≤ 65537) :
    Calls Try.prog 11 #[.slice a0 n0 c0, .slice a1 n1 c1, .slice a2 n1 c2] w fun e w' => (∃ B vo vp os, e = .returned (.pointer (some ⟨B, 0, none⟩)) ∧ Cast w' w.heap.size B vo vp s0 os ∧ os.map Opn.peer = s1 ∧ os.map Opn.link = z2) ∧ Below w.heap.size w w' := by
  obtain ⟨i60, hi60, hz60, hs60, hb60⟩ := info_parts Try.info60
  have hlen0 : Hid (s0.length = n0) := h0.len
  go_enter Try.func11, Try.ntmps11
  go_wp2
  go_loopw [8] (fun i wr => ∃ (k : Nat) (vo : Value), k ≤ n0 ∧ i = .int .i64 k ∧ Hid (Cast wr w.heap.size w.heap.size vo (.slice none 0 0) (s0.take k) []) ∧ Hid (Below w.heap.size w wr)) (fun i _ => n0 - (intOf i).toNat)
  case atStart =>
    refine ⟨0, _, Nat.zero_le _, rfl, ⟨Nat.le_refl _, ⟨_, heap_alloc_new w _, rfl, rfl⟩, World.ownsRow_nil _ _ _ _, World.ownsRow_nil _ _ _ _, by simp⟩, (Below.refl _ _).alloc (Nat.le_refl _) _⟩
  case round =>
    obtain ⟨k, vo, hk, rfl, hcast, hbel⟩ := hrel
    by_cases hlt : k < n0
    · obtain ⟨b, off, rfl, hbl, hc0⟩ := h0.cells (by omega)
      have hS := (hbel.out.cell (p := ⟨b, off + k, none⟩) hbl).trans (hc0 k hlt)
      clear hc0
      have hV := hcast.out.cell3
      have hF := hcast.out.frozen 3
      have hsz := hbel.out.size
      have hBl := hcast.out.lt
      have hown := hcast.out.orow
      have hne : vo.ownBlock ≠ some w.heap.size := by
        exact ownsRow_ne hown hcast.out.tag (by decide)
      generalize hg : s0.getD k ByteArray.empty = s at hS
      have HG := show Hid _ from hg
      clear hg
      have hlt' : (k : Int) < (n0 : Int) := by omega
      have hge' : (0 : Int) ≤ (k : Int) := by omega
      go_wp2_with fail
      have hnb : vo.ownBlock ≠ some b := fun e => by have := (hown.lt b e).1; omega
      have h63 : (s0.take k).length + 1 ≤ maxLen := by have := List.length_take_le k s0; unfold maxLen; omega
      have hby : ((s0.take k).length + 1) * 56 ≤ 140737488355328 := by have := List.length_take_le k s0; omega
      have hbl' : b < wr.heap.size := by omega
      go_region_law ((refine step_append_lies _ (by rfl) _ _ _ (by rfl) w.heap.size 60 i60 _ 4 56 Try.underlying47 hi60 hz60 hs60 hb60 rfl (by omega) vo (s0.take k).length ((s0.take k).flatMap outCells) (by rfl) ((hown.alloc _).drew) ⟨wr.heap.size, 0, none⟩ 1 1 (outCells s) (by rfl) (by rfl) (World.news_of_block (cs := (outCells s).toArray) (t := 60) (fr := (0, 0)) (heap_alloc_new wr _)) (by simp [outCells, Value.oneCell']) (by omega) h63 hby (by simp; omega) (wr.heap.size + 1) (by simp) ?_; intro gg cap w1 hown1 hgrow hat hlt2; have hF1 : w1.frozen? ⟨w.heap.size, 3, none⟩ = false := (hgrow.frozen_far _ (by simp; omega) (Ne.symm hne)).trans ((World.frozen?_alloc_past _ _ _ hBl).trans hF); have hV1 : w1.cell? ⟨w.heap.size, 3, none⟩ = some vo := (hgrow.cell_far _ (by simp; omega) (Ne.symm hne)).trans ((World.cell?_alloc_past _ _ _ hBl).trans hV)))
      all_goals
        have hgrow0 : wr.grownBy w1 vo.ownBlock := ⟨hgrow.os, hgrow.tape, hgrow.output, by have := hgrow.size; simp at this; omega, fun j hj hne' => (hgrow.block j (by simp; omega) hne').trans (Below.heap_alloc wr _ j hj)⟩
        clear hgrow hF1 hV1 hF hV hS
        go_wp2
        go_roundw
        case rel =>
          refine ⟨k + 1, _, by omega, by go_num, (hcast.out.setOut (fun j hj hne' => hgrow0.block j hj hne') ?_), ?_⟩
          · have e : s0.take (k + 1) = s0.take k ++ [s] := by
              rw [List.take_succ_eq_append_getElem (by rw [hlen0.out]; exact hlt), ← HG.out]
              simp [List.getD_eq_getElem?_getD, hlen0.out, hlt]
            rw [e, List.length_append, List.flatMap_append]
            simpa using hown1
          · exact (hbel.out.grown hgrow0 hsz (fun j e => (hown.lt j e).1)).setCell (Nat.le_refl _) _
        case measure => simp [intOf]; omega
    · have : k = n0 := by omega
      subst this
      obtain ⟨i34, hi34, hz34, hs34, hb34⟩ := info_parts Try.info34
      have hc0 := hcast.out
      have hb0 := hbel.out
      rw [List.take_of_length_le (by rw [hlen0.out]; exact Nat.le_refl _)] at hc0
      have HC0 := show Hid _ from hc0
      have HB0 := show Hid _ from hb0
      clear hc0 hb0 hcast hbel
      have hlen1 : Hid (s1.length = n1) := h1.len
      have hlen2 : Hid (z2.length = n1) := h2.len
      obtain ⟨wo, hwo⟩ : ∃ wo : World, wo = wr := ⟨_, rfl⟩
      subst hwo
      go_wp2
      go_loopw [9] (fun i wr => ∃ (k : Nat) (vp : Value) (os : List Opn), k ≤ n1 ∧ i = .int .i64 k ∧ Hid (Cast wr w.heap.size w.heap.size vo vp s0 os) ∧ Hid (os.map Opn.peer = s1.take k ∧ os.map Opn.link = z2.take k) ∧ Hid (Below w.heap.size w wr)) (fun i _ => n1 - (intOf i).toNat)
      case atStart => exact ⟨0, _, [], Nat.zero_le _, rfl, HC0.out, ⟨rfl, rfl⟩, HB0.out⟩
      case round =>
        obtain ⟨k2, vp, os, hk2, rfl, hcast, hos, hbel⟩ := hrel
        by_cases hlt : k2 < n1
        · obtain ⟨b, off, rfl, hbl, hc0⟩ := h1.cells (by omega)
          have hS := (hbel.out.cell (p := ⟨b, off + k2, none⟩) hbl).trans (hc0 k2 hlt)
          clear hc0
          obtain ⟨b2, off2, rfl, hbl2, hc0⟩ := h2.cells (by omega)
          have hS2 := (hbel.out.cell (p := ⟨b2, off2 + k2, none⟩) hbl2).trans (hc0 k2 hlt)
          clear hc0
          have hV := hcast.out.cell5
          have hF := hcast.out.frozen 5
          have hsz := hbel.out.size
          have hBl := hcast.out.lt
          have hown := hcast.out.prow
          have hne : vp.ownBlock ≠ some w.heap.size := ownsRow_ne hown hcast.out.tag (by decide)
          generalize hg : s1.getD k2 ByteArray.empty = s at hS
          generalize hg2 : z2.getD k2 0 = z at hS2
          have HG := show Hid _ from hg
          have HG2 := show Hid _ from hg2
          clear hg hg2
          have hlt' : (k2 : Int) < (n1 : Int) := by omega
          have hge' : (0 : Int) ≤ (k2 : Int) := by omega
          have hosl : os.length = k2 := by have := congrArg List.length hos.out.1; simpa [hlen1.out, Nat.min_eq_left (Nat.le_of_lt hlt)] using this
          have h63 : os.length + 1 ≤ maxLen := by unfold maxLen; omega
          have hby : (os.length + 1) * 8 ≤ 140737488355328 := by omega
          have HOL := show Hid _ from hosl
          clear hosl
          have hbl' : b < wr.heap.size := by omega
          have hbl2' : b2 < wr.heap.size := by omega
          have hnews : Hid (∀ (o1 : Obj) j u, [Value.pointer (some ⟨wr.heap.size, 0, none⟩)][j]? = some u → (((wr.alloc o1).alloc (.cells #[.pointer (some ⟨wr.heap.size, 0, none⟩)] 34)).drew).cell? ((⟨wr.heap.size + 1, 0, none⟩ : Addr).add j) = some u) := fun o1 => by
            have := World.news_of_block (cs := #[Value.pointer (some ⟨wr.heap.size, 0, none⟩)]) (t := 34) (fr := (0, 0)) (heap_alloc_new (wr.alloc o1) (.cells #[.pointer (some ⟨wr.heap.size, 0, none⟩)] 34))
            simpa using this
          go_wp2_with fail
          go_region_law ((refine step_append_lies _ (by rfl) _ _ _ (by rfl) w.heap.size 34 i34 _ 1 8 Try.underlying49 hi34 hz34 hs34 hb34 rfl (by omega) vp os.length (os.map fun o => .pointer (some ⟨o.blk, 0, none⟩)) (by rfl) (((hown.alloc _).alloc _).drew) ⟨wr.heap.size + 1, 0, none⟩ 1 1 [.pointer (some ⟨wr.heap.size, 0, none⟩)] (by rfl) (by rfl) (hnews.out _) (by simp [Value.oneCell']) (by omega) h63 hby (by simp; omega) (wr.heap.size + 2) (by simp) ?_; intro gg cap w1 hown1 hgrow hat hlt2; have hF1 : w1.frozen? ⟨w.heap.size, 5, none⟩ = false := (hgrow.frozen_far _ (by simp; omega) (Ne.symm hne)).trans ((World.frozen?_alloc_past _ _ _ (by simp; omega)).trans ((World.frozen?_alloc_past _ _ _ hBl).trans hF)); have hV1 : w1.cell? ⟨w.heap.size, 5, none⟩ = some vp := (hgrow.cell_far _ (by simp; omega) (Ne.symm hne)).trans ((World.cell?_alloc_past _ _ _ (by simp; omega)).trans ((World.cell?_alloc_past _ _ _ hBl).trans hV))))
          all_goals
            have hnew : vp.ownBlock ≠ some wr.heap.size := fun e => by have := (hown.lt _ e).2; omega
            have hopn : IsOpn w1 ⟨wr.heap.size, s, z⟩ := ⟨_, (hgrow.block wr.heap.size (by simp; omega) (Ne.symm hnew)).trans ((Below.heap_alloc _ _ _ (by simp)).trans (heap_alloc_new wr _)), rfl, rfl⟩
            have hgrow0 : wr.grownBy w1 vp.ownBlock := ⟨hgrow.os, hgrow.tape, hgrow.output, by have := hgrow.size; simp at this; omega, fun j hj hne' => (hgrow.block j (by simp; omega) hne').trans ((Below.heap_alloc _ _ j (by simp; omega)).trans (Below.heap_alloc wr _ j hj))⟩
            clear hgrow hF1 hV1 hF hV hS hS2 hnews
            have HO := show Hid _ from hopn
            clear hopn
            go_wp2
            go_roundw
            case rel =>
              refine ⟨k2 + 1, _, os ++ [⟨wr.heap.size, s, z⟩], by omega, by go_num, (hcast.out.setOpn (fun j hj hne' => hgrow0.block j hj hne') ?_ ?_), ?_, ?_⟩
              · simpa using hown1
              · intro o ho
                rcases List.mem_append.1 ho with ho | ho
                · have := hcast.out.each o ho
                  exact ⟨this.1, this.2.same (hgrow0.block _ this.2.tag.lt fun e => ownsRow_ne hown this.2.tag (by decide) e.symm)⟩
                · have e : o = ⟨wr.heap.size, s, z⟩ := by simpa using ho
                  subst e
                  exact ⟨hsz, HO.out⟩
              · refine ⟨?_, ?_⟩
                · rw [List.take_succ_eq_append_getElem (by rw [hlen1.out]; exact hlt), List.map_append, hos.out.1, ← HG.out]
                  simp [List.getD_eq_getElem?_getD, hlen1.out, hlt]
                · rw [List.take_succ_eq_append_getElem (by rw [hlen2.out]; exact hlt), List.map_append, hos.out.2, ← HG2.out]
                  simp [List.getD_eq_getElem?_getD, hlen2.out, hlt]
              · exact (hbel.out.grown hgrow0 hsz (fun j e => (hown.lt j e).1)).setCell (Nat.le_refl _) _
            case measure => simp [intOf]; omega
        · have : k2 = n1 := by omega
          subst this
          go_wp2
          go_ret
          have h5 := hos.out
          rw [List.take_of_length_le (by rw [hlen1.out]; exact Nat.le_refl _), List.take_of_length_le (by rw [hlen2.out]; exact Nat.le_refl _)] at h5
          exact ⟨⟨_, vo, vp, os, rfl, hcast.out, h5.1, h5.2⟩, hbel.out⟩
end Go.Proofs.Qxb6616671a
