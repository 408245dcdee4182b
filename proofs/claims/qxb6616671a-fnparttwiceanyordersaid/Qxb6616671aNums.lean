/-
  A SLICE OF uint64, AS THE WALKS TAKE IT; zzCloneU64; the small 'bytes' tests ahead of the laws on openings.
-/
import Derived.Test.Qxb6616671aBase
namespace Go.Proofs.Qxb6616671a
open Go.RowKit

/-- The numbers zs lie in w behind the slice value '.slice a n c'. -/
structure HasNums (w : World) (a : Option Addr) (n c : Nat) (zs : List Int) : Prop where
  len : zs.length = n
  le : n ≤ c
  cap : c ≤ maxLen
  nil : a = none → n = 0 ∧ c = 0
  cells : 0 < n → ∃ b off, a = some ⟨b, off, none⟩ ∧ b < w.heap.size ∧ ∀ i, i < n → w.cell? ⟨b, off + i, none⟩ = some (.int .u64 (zs.getD i 0))

theorem HasNums.below {w w' : World} {a : Option Addr} {n c : Nat} {zs : List Int} (h : HasNums w a n c zs) {B : Nat} (hB : w.heap.size ≤ B) (hb : Below B w w') : HasNums w' a n c zs := by
  refine ⟨h.len, h.le, h.cap, h.nil, fun hn => ?_⟩
  obtain ⟨b, off, ha, hbl, hc⟩ := h.cells hn
  exact ⟨b, off, ha, by have := hb.size; omega, fun i hi => (hb.cell (p := ⟨b, off + i, none⟩) (by show b < B; omega)).trans (hc i hi)⟩

theorem Try.info37 : (Try.prog.info? 37).map (fun i => (i.zero, i.size, i.bytes)) = some (some (.int .u64 0), 1, 8) := by kernel_rfl

set_option maxHeartbeats 400000 in
theorem cloneU64_any (a : Option Addr) (n c : Nat) (zs : List Int) (w : World) (hs : HasNums w a n c zs) (hsmall : n ≤ 65536) :
    Calls Try.prog 10 #[.slice a n c] w fun e w' => (∃ a' c', e = .returned (.slice a' n c') ∧ HasNums w' a' n c' zs) ∧ Below w.heap.size w w' := by
  have q23 : ∀ (w : World) (a : Option Addr) (n c n' c' : Nat), (binOp .eql 23 (.slice a n c) (.slice none n' c')).run Try.prog w = .ok (.bool a.isNone) w := fun w a n c n' c' => Lib.run_eql_slice_nil w _ _ a n c n' c' Try.underlying23
  have hlen : Hid (zs.length = n) := hs.len
  cases a with
  | none =>
    obtain ⟨rfl, rfl⟩ := hs.nil rfl
    go_enter Try.func10, Try.ntmps10
    go_wp2
    go_ret
    exact ⟨⟨_, _, rfl, hs⟩, Below.refl _ _⟩
  | some a =>
    have hmk := run_make_row' (P := Try.prog) 23 37 (.int .u64 0) 8 Try.underlying23 Try.info37 rfl .i64 .i64 n (by omega) (by omega)
    by_cases hn : 0 < n
    · obtain ⟨b, off, ha, hbl, hc0⟩ := hs.cells hn
      obtain rfl : a = ⟨b, off, none⟩ := by simpa using ha
      have hc := show Hid _ from hc0
      clear hc0 ha
      have hmade := World.rowIs_made w (.int .u64 0) n 37
      have hbw : Below w.heap.size w (w.alloc (.cells (madeCells #[.int .u64 0] n) 37)) := (Below.refl _ _).alloc (Nat.le_refl _) _
      have H0 := show Hid _ from (⟨hmade, hbw⟩ : _ ∧ _)
      clear hmade hbw
      go_enter Try.func10, Try.ntmps10
      go_wp2
      go_loopw [4] (fun i wr => ∃ k : Nat, k ≤ n ∧ i = .int .i64 k ∧ Hid (wr.rowIs w.heap.size 37 n (fun j => if j < k then .int .u64 (zs.getD j 0) else .int .u64 0)) ∧ Hid (Below w.heap.size w wr)) (fun i _ => n - (intOf i).toNat)
      case atStart => exact ⟨0, Nat.zero_le _, rfl, H0.out.1.congr (fun _ _ => by simp), H0.out.2⟩
      case round =>
        obtain ⟨k, hk, rfl, hrow, hbel⟩ := hrel
        by_cases hlt : k < n
        · have hcell := (hbel.out.cell (p := ⟨b, off + k, none⟩) hbl).trans (hc.out k hlt)
          have hcell2 := hrow.out.cell (i := k) hlt
          have hfr := hrow.out.frozen k
          simp only [Nat.lt_irrefl, if_false] at hcell2
          generalize hg : zs.getD k 0 = s at hcell
          have HG := show Hid _ from hg
          clear hg
          go_wp2
          go_roundw
          case rel =>
            refine ⟨k + 1, by omega, by go_num, ?_, hbel.out.setCell (Nat.le_refl _) _⟩
            refine (hrow.out.set k (.int .u64 s)).congr fun j hj => ?_
            rw [← HG.out]
            by_cases e : j = k
            · subst e; simp
            · by_cases e2 : j < k
              · simp [e, e2, Nat.lt_succ_of_lt e2]
              · have : ¬ j < k + 1 := by omega
                simp [e, e2, this]
          case measure => simp [intOf]; omega
        · have : k = n := by omega
          subst this
          go_wp2
          go_ret
          exact ⟨⟨_, _, rfl, hlen.out, Nat.le_refl _, by unfold maxLen; omega, by simp, fun _ => ⟨w.heap.size, 0, rfl, hrow.out.lt, fun i hi => by
            have := hrow.out.cell (i := i) hi
            rw [Nat.zero_add, this, if_pos hi]⟩⟩, hbel.out⟩
    · have h0 : n = 0 := by omega
      subst h0
      have hmk0 : ∀ w : World, (Instr.makeSlice 23 (.int .i64 0) (.int .i64 0)).run Try.prog w = .ok (.slice (some ⟨w.heap.size, 0, none⟩) 0 0) (w.alloc (.cells (madeCells #[.int .u64 0] 0) 37)) := hmk
      clear hmk
      go_enter Try.func10, Try.ntmps10
      go_wp2
      refine wp_loop_rounds 1 ?_
      rw [rounds_succ]
      go_wp2
      go_ret
      exact ⟨⟨_, _, rfl, hlen.out, Nat.le_refl _, by unfold maxLen; omega, by simp, fun h => absurd h (Nat.lt_irrefl _)⟩, (Below.refl _ _).alloc (Nat.le_refl _) _⟩

/-- A bool comes back. -/
def RetB (e : Ending) : Prop := ∃ r : Bool, e = .returned (.bool r)

set_option maxHeartbeats 1000000 in
theorem bytes21_any (a1 : Option Addr) (n1 c1 : Nat) (s1 : List ByteArray) (a2 : Option Addr) (n2 c2 : Nat) (kk : Int) (p : ByteArray) (li pr : Int) (w : World) (h1 : HasStrs w a1 n1 c1 s1) (m2 : n2 ≤ 9223372036854775807) (hp : p.size ≤ maxLen) :
    Calls Try.prog 21 #[.slice a1 n1 c1, .slice a2 n2 c2, .int .i64 kk, .string p, .int .u64 li, .int .u64 pr] w fun e w' => RetB e ∧ w' = w := by
  have m1 : n1 ≤ 9223372036854775807 := by have := h1.le; have := h1.cap; unfold maxLen at this; omega
  unfold maxLen at hp
  by_cases g1 : 1048576 < n1
  · go_enter Try.func21, Try.ntmps21
    go_wp2
    go_ret
    exact ⟨⟨_, rfl⟩, rfl⟩
  · go_enter Try.func21, Try.ntmps21
    go_wp2
    go_loop [13, 14] (fun t i => ∃ (k : Nat) (r : Int), k ≤ n1 ∧ i = .int .i64 k ∧ t = .int .i64 r ∧ 0 ≤ r ∧ r ≤ 1048576) (fun _ i => n1 - (intOf i).toNat)
    case atStart => exact ⟨0, _, Nat.zero_le _, rfl, rfl, by omega, by omega⟩
    case round =>
      obtain ⟨k, r, hk, rfl, rfl, hr0, hr1⟩ := hrel
      by_cases hlt : k < n1
      · obtain ⟨b, off, rfl, hbl, hc0⟩ := h1.cells (by omega)
        have hcell := hc0 k hlt
        clear hc0
        generalize s1.getD k ByteArray.empty = s at hcell
        go_wp2
        · go_ret
          exact ⟨⟨_, rfl⟩, rfl⟩
        · go_ret
          exact ⟨⟨_, rfl⟩, rfl⟩
        · go_round
          case rel => exact ⟨k + 1, _, by omega, by go_num, rfl, by omega, by omega⟩
          case measure => simp [intOf]; omega
      · go_wp2
        all_goals
          go_ret
          exact ⟨⟨_, rfl⟩, rfl⟩

set_option maxHeartbeats 1000000 in
theorem bytes19_any (a1 : Option Addr) (n1 c1 : Nat) (s1 : List ByteArray) (a2 : Option Addr) (n2 c2 : Nat) (p : ByteArray) (pr : Int) (w : World) (h1 : HasStrs w a1 n1 c1 s1) (m2 : n2 ≤ 9223372036854775807) (hp : p.size ≤ maxLen) :
    Calls Try.prog 19 #[.slice a1 n1 c1, .slice a2 n2 c2, .string p, .int .u64 pr] w fun e w' => RetB e ∧ w' = w := by
  have m1 : n1 ≤ 9223372036854775807 := by have := h1.le; have := h1.cap; unfold maxLen at this; omega
  unfold maxLen at hp
  by_cases g1 : 1048576 < n1
  · go_enter Try.func19, Try.ntmps19
    go_wp2
    go_ret
    exact ⟨⟨_, rfl⟩, rfl⟩
  · go_enter Try.func19, Try.ntmps19
    go_wp2
    go_loop [9, 10] (fun t i => ∃ (k : Nat) (r : Int), k ≤ n1 ∧ i = .int .i64 k ∧ t = .int .i64 r ∧ 0 ≤ r ∧ r ≤ 1048576) (fun _ i => n1 - (intOf i).toNat)
    case atStart => exact ⟨0, _, Nat.zero_le _, rfl, rfl, by omega, by omega⟩
    case round =>
      obtain ⟨k, r, hk, rfl, rfl, hr0, hr1⟩ := hrel
      by_cases hlt : k < n1
      · obtain ⟨b, off, rfl, hbl, hc0⟩ := h1.cells (by omega)
        have hcell := hc0 k hlt
        clear hc0
        generalize s1.getD k ByteArray.empty = s at hcell
        go_wp2
        · go_ret
          exact ⟨⟨_, rfl⟩, rfl⟩
        · go_ret
          exact ⟨⟨_, rfl⟩, rfl⟩
        · go_round
          case rel => exact ⟨k + 1, _, by omega, by go_num, rfl, by omega, by omega⟩
          case measure => simp [intOf]; omega
      · go_wp2
        all_goals
          go_ret
          exact ⟨⟨_, rfl⟩, rfl⟩
end Go.Proofs.Qxb6616671a
