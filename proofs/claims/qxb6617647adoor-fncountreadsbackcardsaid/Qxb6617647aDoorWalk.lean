/-
  THE WALKS: count, ZZcount, zzIsLowerWord, zzReadsBackAs.
-/
import Derived.Test.Qxb6617647aDoorShelf
import Derived.Test.Qxb6617647aDoorPlain
import Derived.WalkKit
import Derived.WalkSpells
import Derived.WalkLawsBesides
namespace Go.Proofs.Qxb6617647aDoor
open Go.RowKit

/-- A list of bytes as a Go string. -/
def bs (l : List UInt8) : ByteArray := ⟨l.toArray⟩

set_option maxRecDepth 100000 in
set_option maxHeartbeats 2000000 in
theorem count_small (n : Int) (h0 : 0 ≤ n) (h1 : n < 10) (w : World) :
    Calls Tryd.prog 8 #[.int .i64 n] w fun e w' => e = .returned (.string (bs (cnt n))) ∧ Below w.heap.size w w' := by
  rcases (show n = 0 ∨ n = 1 ∨ n = 2 ∨ n = 3 ∨ n = 4 ∨ n = 5 ∨ n = 6 ∨ n = 7 ∨ n = 8 ∨ n = 9 from by omega) with rfl | rfl | rfl | rfl | rfl | rfl | rfl | rfl | rfl | rfl
  all_goals
    go_enter Tryd.func8, Tryd.ntmps8
    go_wp2
    go_ret
    exact ⟨rfl, (Below.refl _ _).alloc (Nat.le_refl _) _⟩

set_option maxRecDepth 100000 in
set_option maxHeartbeats 1000000 in
theorem count_big (n : Int) (h0 : -9223372036854775808 ≤ n) (h1 : n ≤ 9223372036854775807) (hn : n < 0 ∨ 10 ≤ n) (w : World) (htab : Lib.TabIs Tryd.prog w powName .u64 Lib.pow10Tab) :
    Calls Tryd.prog 8 #[.int .i64 n] w fun e w' => e = .returned (.string (bs (cnt n))) ∧ Below w.heap.size w w' := by
  have hI : Hid (∀ W, Below w.heap.size w W → Calls Tryd.prog 9 #[.int .i64 n] W fun e w' => e = .returned (.string (bs (cnt n))) ∧ Below W.heap.size W w') := fun W hW => by
    have e : cnt n = Lib.itoa n := by unfold cnt; rw [if_neg (by omega)]
    rw [e]
    exact itoa_any n h0 h1 W (Lib.tabBelow_of_tabIs htab W hW)
  clear htab
  rcases hn with hn | hn
  all_goals
    go_enter Tryd.func8, Tryd.ntmps8
    go_wp2_with (go_at_call 9; refine Calls.mono (hI.out _ ((Below.refl _ _).alloc (Nat.le_refl _) _)) ?_; rintro e w2 ⟨rfl, hb2⟩)
    go_ret
    exact ⟨rfl, ((Below.refl _ _).alloc (Nat.le_refl _) _).trans (hb2.mono (by simp))⟩

/-- count, for every int. -/
theorem count_any (n : Int) (h0 : -9223372036854775808 ≤ n) (h1 : n ≤ 9223372036854775807) (w : World) (htab : Lib.TabIs Tryd.prog w powName .u64 Lib.pow10Tab) :
    Calls Tryd.prog 8 #[.int .i64 n] w fun e w' => e = .returned (.string (bs (cnt n))) ∧ Below w.heap.size w w' := by
  by_cases h : 0 ≤ n ∧ n < 10
  · exact count_small n h.1 h.2 w
  · exact count_big n h0 h1 (by omega) w htab

set_option maxHeartbeats 400000 in
theorem zzcount_any (n : Int) (h0 : -9223372036854775808 ≤ n) (h1 : n ≤ 9223372036854775807) (w : World) (htab : Lib.TabIs Tryd.prog w powName .u64 Lib.pow10Tab) :
    Calls Tryd.prog 5 #[.int .i64 n] w fun e w' => e = .returned (.string (bs (cnt n))) ∧ Below w.heap.size w w' := by
  have hc := show Hid _ from count_any n h0 h1 w htab
  clear htab
  go_enter Tryd.func5, Tryd.ntmps5
  go_wp2_with (go_at_call 8; refine Calls.mono hc.out ?_; rintro e w2 ⟨rfl, hb2⟩)
  go_ret
  exact ⟨rfl, hb2⟩

set_option maxHeartbeats 400000 in
theorem lower_any (s : ByteArray) (w : World) (h0 : 0 < s.size) (hs : s.size ≤ 100) (hall : ∀ k (h : k < s.size), 97 ≤ (s[k].toNat : Int) ∧ (s[k].toNat : Int) ≤ 122) :
    Calls Tryd.prog 6 #[.string s] w fun e w' => e = .returned (.bool true) ∧ w' = w := by
  have HA := show Hid _ from hall
  clear hall
  have hz : ((s.size : Int) == 0) = false := beq_eq_false_iff_ne.2 (by omega)
  go_enter Tryd.func6, Tryd.ntmps6
  go_wp2
  go_loop [3, 4] (fun i _ => ∃ k : Nat, k ≤ s.size ∧ i = .int .i64 k) (fun i _ => s.size - (intOf i).toNat)
  case atStart => exact ⟨0, Nat.zero_le _, rfl⟩
  case round =>
    obtain ⟨k, hk, rfl⟩ := hrel
    by_cases hlt : k < s.size
    · obtain ⟨a1, a2⟩ := HA.out k hlt
      go_wp2
      go_round
      case rel => exact ⟨k + 1, by omega, by go_num⟩
      case measure => simp [intOf]; omega
    · go_wp2
      go_ret
      exact ⟨rfl, rfl⟩

end Go.Proofs.Qxb6617647aDoor
