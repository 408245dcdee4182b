/-
  THE SHARED GROUND of this seat's four laws: what a slice of strings is to the walk; the contracts of the small helpers (no Go memory is written by them but what they make).
-/
import Derived.Test.Qxb6616671aProg
import Derived.WalkKit
import Derived.WalkSpells
import Derived.WalkLawsBesides
import Derived.Deep.OwnRows
namespace Go.Proofs.Qxb6616671a
open Go.RowKit

/-- The strings ss lie in w behind the slice value '.slice a n c'. -/
structure HasStrs (w : World) (a : Option Addr) (n c : Nat) (ss : List ByteArray) : Prop where
  len : ss.length = n
  le : n ≤ c
  cap : c ≤ maxLen
  nil : a = none → n = 0 ∧ c = 0
  small : ∀ s ∈ ss, s.size ≤ maxLen
  cells : 0 < n → ∃ b off, a = some ⟨b, off, none⟩ ∧ b < w.heap.size ∧ ∀ i, i < n → w.cell? ⟨b, off + i, none⟩ = some (.string (ss.getD i ByteArray.empty))

theorem HasStrs.below {w w' : World} {a : Option Addr} {n c : Nat} {ss : List ByteArray} (h : HasStrs w a n c ss) {B : Nat} (hB : w.heap.size ≤ B) (hb : Below B w w') : HasStrs w' a n c ss := by
  refine ⟨h.len, h.le, h.cap, h.nil, h.small, fun hn => ?_⟩
  obtain ⟨b, off, ha, hbl, hc⟩ := h.cells hn
  exact ⟨b, off, ha, by have := hb.size; omega, fun i hi => (hb.cell (p := ⟨b, off + i, none⟩) (by show b < B; omega)).trans (hc i hi)⟩

/-! ### zzAddStrs: some int comes back; the world is as it was -/
set_option maxHeartbeats 400000 in
theorem addStrs_any (t : Int) (a : Option Addr) (n c : Nat) (ss : List ByteArray) (w : World) (hs : HasStrs w a n c ss) :
    Calls Try.prog 8 #[.int .i64 t, .slice a n c] w fun e w' => (∃ r : Int, e = .returned (.int .i64 r)) ∧ w' = w := by
  have hm : n ≤ 9223372036854775807 := by have := hs.le; have := hs.cap; unfold maxLen at this; omega
  by_cases ht : 1048576 < t
  · go_enter Try.func8, Try.ntmps8
    go_wp2
    go_ret
    exact ⟨⟨_, rfl⟩, rfl⟩
  · by_cases hn : 0 < n
    · obtain ⟨b, off, rfl, hbl, hc⟩ := hs.cells hn
      go_enter Try.func8, Try.ntmps8
      go_wp2
      go_loop [0, 5] (fun t i => ∃ (k : Nat) (r : Int), k ≤ n ∧ i = .int .i64 k ∧ t = .int .i64 r) (fun _ i => n - (intOf i).toNat)
      case atStart => exact ⟨0, _, Nat.zero_le _, rfl, rfl⟩
      case round =>
        obtain ⟨k, r, hk, rfl, rfl⟩ := hrel
        by_cases hlt : k < n
        · have hcell := hc k hlt
          go_wp2
          · go_ret
            exact ⟨⟨_, rfl⟩, rfl⟩
          · go_ret
            exact ⟨⟨_, rfl⟩, rfl⟩
          · go_round
            case rel => exact ⟨k + 1, _, by omega, by go_num, rfl⟩
            case measure => simp [intOf]; omega
        · go_wp2
          go_ret
          exact ⟨⟨_, rfl⟩, rfl⟩
    · have h0 : n = 0 := by omega
      subst h0
      go_enter Try.func8, Try.ntmps8
      go_wp2
      refine wp_loop_rounds 1 ?_
      rw [rounds_succ]
      go_wp2
      go_ret
      exact ⟨⟨_, rfl⟩, rfl⟩

/-! ### slices.Index, slices.Contains at []string -/
theorem any_of_hit (ss : List ByteArray) (x : ByteArray) (k : Nat) (hk : k < ss.length) (h : (x.toList == (ss.getD k ByteArray.empty).toList) = true) : ss.any (fun s => x.toList == s.toList) = true := by
  rw [List.any_eq_true]
  refine ⟨ss.getD k ByteArray.empty, ?_, h⟩
  rw [List.getD_eq_getElem?_getD, List.getElem?_eq_getElem hk]
  exact List.getElem_mem hk
theorem any_of_miss (ss : List ByteArray) (x : ByteArray) (h : ∀ j, j < ss.length → (x.toList == (ss.getD j ByteArray.empty).toList) = false) : ss.any (fun s => x.toList == s.toList) = false := by
  rw [List.any_eq_false]
  intro s hs
  obtain ⟨j, hj, rfl⟩ := List.getElem_of_mem hs
  have := h j hj
  rw [List.getD_eq_getElem?_getD, List.getElem?_eq_getElem hj] at this
  simpa using this

set_option maxHeartbeats 400000 in
theorem index_any (a : Option Addr) (n c : Nat) (ss : List ByteArray) (x : ByteArray) (w : World) (hs : HasStrs w a n c ss) :
    Calls Try.prog 35 #[.slice a n c, .string x] w fun e w' => (∃ r : Int, e = .returned (.int .i64 r) ∧ decide (0 ≤ r) = ss.any (fun s => x.toList == s.toList)) ∧ w' = w := by
  have hm : n ≤ 9223372036854775807 := by have := hs.le; have := hs.cap; unfold maxLen at this; omega
  have hlen : Hid (ss.length = n) := hs.len
  by_cases hn : 0 < n
  · obtain ⟨b, off, rfl, hbl, hc0⟩ := hs.cells hn
    have hc := show Hid _ from hc0
    clear hc0
    go_enter Try.func35, Try.ntmps35
    go_wp2
    go_loop [5, 8] (fun _ i => ∃ k : Nat, k ≤ n ∧ i = .int .i64 k ∧ Hid (∀ j, j < k → (x.toList == (ss.getD j ByteArray.empty).toList) = false)) (fun _ i => n - (intOf i).toNat)
    case atStart => exact ⟨0, Nat.zero_le _, rfl, fun j hj => absurd hj (Nat.not_lt_zero _)⟩
    case round =>
      obtain ⟨k, hk, rfl, hno⟩ := hrel
      by_cases hlt : k < n
      · have hcell := hc.out k hlt
        generalize hg : ss.getD k ByteArray.empty = s at hcell
        have HG := show Hid _ from hg
        clear hg
        cases hq : (x.toList == s.toList) with
        | true =>
          go_wp2
          go_ret
          exact ⟨⟨_, rfl, by rw [any_of_hit ss x k (by rw [hlen.out]; exact hlt) (by rw [HG.out]; exact hq)]; simp⟩, rfl⟩
        | false =>
          have hq' := show Hid _ from hq
          go_wp2
          go_round
          case rel =>
            refine ⟨k + 1, by omega, by go_num, fun j hj => ?_⟩
            by_cases e : j = k
            · subst e; rw [HG.out]; exact hq'.out
            · exact hno.out j (by omega)
          case measure => simp [intOf]; omega
      · have : k = n := by omega
        subst this
        go_wp2
        go_ret
        exact ⟨⟨_, rfl, by rw [any_of_miss ss x (by rw [hlen.out]; exact hno.out)]; simp⟩, rfl⟩
  · have h0 : n = 0 := by omega
    subst h0
    have h1 : ss = [] := List.eq_nil_of_length_eq_zero hlen.out
    subst h1
    go_enter Try.func35, Try.ntmps35
    go_wp2
    refine wp_loop_rounds 1 ?_
    rw [rounds_succ]
    go_wp2
    go_ret
    exact ⟨⟨_, rfl, by simp⟩, rfl⟩

set_option maxHeartbeats 400000 in
theorem contains_any (a : Option Addr) (n c : Nat) (ss : List ByteArray) (x : ByteArray) (w : World) (hs : HasStrs w a n c ss) :
    Calls Try.prog 32 #[.slice a n c, .string x] w fun e w' => e = .returned (.bool (ss.any (fun s => x.toList == s.toList))) ∧ w' = w := by
  go_enter Try.func32, Try.ntmps32
  go_wp2_with (go_at_call 35; refine (index_any _ _ _ ss _ _ hs).mono ?_; rintro e w' ⟨⟨r, rfl, hr⟩, rfl⟩)
  go_ret
  exact ⟨rfl, rfl⟩

/-! ### zzCloneStrs: the same strings in memory of the call's own -/
theorem Try.info9 : (Try.prog.info? 9).map (fun i => (i.zero, i.size, i.bytes)) = some (some (.string ByteArray.empty), 1, 16) := by kernel_rfl

set_option maxHeartbeats 400000 in
theorem cloneStrs_any (a : Option Addr) (n c : Nat) (ss : List ByteArray) (w : World) (hs : HasStrs w a n c ss) (hsmall : n ≤ 65536) :
    Calls Try.prog 9 #[.slice a n c] w fun e w' => (∃ a' c', e = .returned (.slice a' n c') ∧ HasStrs w' a' n c' ss) ∧ Below w.heap.size w w' := by
  have q22 : ∀ (w : World) (a : Option Addr) (n c n' c' : Nat), (binOp .eql 22 (.slice a n c) (.slice none n' c')).run Try.prog w = .ok (.bool a.isNone) w := fun w a n c n' c' => Lib.run_eql_slice_nil w _ _ a n c n' c' Try.underlying22
  have hlen : Hid (ss.length = n) := hs.len
  cases a with
  | none =>
    obtain ⟨rfl, rfl⟩ := hs.nil rfl
    go_enter Try.func9, Try.ntmps9
    go_wp2
    go_ret
    exact ⟨⟨_, _, rfl, hs⟩, Below.refl _ _⟩
  | some a =>
    have hmk := run_make_row' (P := Try.prog) 22 9 (.string ByteArray.empty) 16 Try.underlying22 Try.info9 rfl .i64 .i64 n (by omega) (by omega)
    by_cases hn : 0 < n
    · obtain ⟨b, off, ha, hbl, hc0⟩ := hs.cells hn
      obtain rfl : a = ⟨b, off, none⟩ := by simpa using ha
      have hc := show Hid _ from hc0
      clear hc0 ha
      have hmade := World.rowIs_made w (.string ByteArray.empty) n 9
      have hbw : Below w.heap.size w (w.alloc (.cells (madeCells #[.string ByteArray.empty] n) 9)) := (Below.refl _ _).alloc (Nat.le_refl _) _
      have H0 := show Hid _ from (⟨hmade, hbw⟩ : _ ∧ _)
      clear hmade hbw
      go_enter Try.func9, Try.ntmps9
      go_wp2
      go_loopw [4] (fun i wr => ∃ k : Nat, k ≤ n ∧ i = .int .i64 k ∧ Hid (wr.rowIs w.heap.size 9 n (fun j => if j < k then .string (ss.getD j ByteArray.empty) else .string ByteArray.empty)) ∧ Hid (Below w.heap.size w wr)) (fun i _ => n - (intOf i).toNat)
      case atStart => exact ⟨0, Nat.zero_le _, rfl, H0.out.1.congr (fun _ _ => by simp), H0.out.2⟩
      case round =>
        obtain ⟨k, hk, rfl, hrow, hbel⟩ := hrel
        by_cases hlt : k < n
        · have hcell := (hbel.out.cell (p := ⟨b, off + k, none⟩) hbl).trans (hc.out k hlt)
          have hcell2 := hrow.out.cell (i := k) hlt
          have hfr := hrow.out.frozen k
          simp only [Nat.lt_irrefl, if_false] at hcell2
          generalize hg : ss.getD k ByteArray.empty = s at hcell
          have HG := show Hid _ from hg
          clear hg
          go_wp2
          go_roundw
          case rel =>
            refine ⟨k + 1, by omega, by go_num, ?_, hbel.out.setCell (Nat.le_refl _) _⟩
            refine (hrow.out.set k (.string s)).congr fun j hj => ?_
            rw [← HG.out]
            by_cases e : j = k
            · subst e; simp
            · by_cases e2 : j < k
              · simp [e, e2, Nat.lt_succ_of_lt e2]
              · have : ¬ j < k + 1 := by omega
                simp [e, e2, this]
          case measure => simp [intOf]; omega
        · have : k = n := by omega
          subst this
          go_wp2
          go_ret
          exact ⟨⟨_, _, rfl, hlen.out, Nat.le_refl _, by unfold maxLen; omega, by simp, hs.small, fun _ => ⟨w.heap.size, 0, rfl, hrow.out.lt, fun i hi => by
            have := hrow.out.cell (i := i) hi
            rw [Nat.zero_add, this, if_pos hi]⟩⟩, hbel.out⟩
    · have h0 : n = 0 := by omega
      subst h0
      have hmk0 : ∀ w : World, (Instr.makeSlice 22 (.int .i64 0) (.int .i64 0)).run Try.prog w = .ok (.slice (some ⟨w.heap.size, 0, none⟩) 0 0) (w.alloc (.cells (madeCells #[.string ByteArray.empty] 0) 9)) := hmk
      clear hmk
      go_enter Try.func9, Try.ntmps9
      go_wp2
      refine wp_loop_rounds 1 ?_
      rw [rounds_succ]
      go_wp2
      go_ret
      exact ⟨⟨_, _, rfl, hlen.out, Nat.le_refl _, by unfold maxLen; omega, by simp, hs.small, fun h => absurd h (Nat.lt_irrefl _)⟩, (Below.refl _ _).alloc (Nat.le_refl _) _⟩
end Go.Proofs.Qxb6616671a
