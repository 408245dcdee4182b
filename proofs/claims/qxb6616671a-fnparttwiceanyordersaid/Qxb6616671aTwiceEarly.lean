/-
  FnPartTwiceAnyOrder: THE SHORT ROADS.
-/
import Derived.Test.Qxb6616671aTwiceKit
namespace Go.Proofs.Qxb6616671a
open Go.RowKit

set_option maxRecDepth 100000 in
set_option maxHeartbeats 4000000 in
theorem law3_early (a0 : Option Addr) (n0 c0 : Nat) (s0 : List ByteArray) (a1 : Option Addr) (n1 c1 : Nat) (s1 : List ByteArray) (a2 : Option Addr) (n2 c2 : Nat) (z2 : List Int) (p q : ByteArray) (w : World) (h0 : HasStrs w a0 n0 c0 s0) (h1 : HasStrs w a1 n1 c1 s1) (h2 : HasNums w a2 n2 c2 z2) (hp : p.size ≤ maxLen) (hq : q.size ≤ maxLen)
    (hg : 65536 < n0 ∨ 65536 < n1 ∨ 65536 < n2 ∨ 1048576 < p.size ∨ 1048576 < q.size ∨ 1048576 < (p.size : Int) + q.size + 8 * n2) :
    Calls Try.prog 3 #[.slice a0 n0 c0, .slice a1 n1 c1, .slice a2 n2 c2, .string p, .string q] w fun e w' => e = .returned (.bool true) ∧ Below w.heap.size w w' := by
  have m2 : n2 ≤ 9223372036854775807 := by have := h2.le; have := h2.cap; unfold maxLen at this; omega
  have B7 := show Hid _ from bytes7_any a0 n0 c0 s0 a1 n1 c1 s1 a2 n2 c2 p q w h0 h1 m2 hp hq
  unfold maxLen at hp hq
  by_cases g0 : 65536 < n0
  · go_enter Try.func3, Try.ntmps3
    go_wp2_with fail
    refine Calls.mono B7.out ?_
    rintro e w' ⟨⟨r, rfl⟩, rfl⟩
    cases r <;> (go_wp2; go_ret; exact ⟨rfl, Below.refl _ _⟩)
  by_cases g1 : 65536 < n1
  · go_enter Try.func3, Try.ntmps3
    go_wp2_with fail
    refine Calls.mono B7.out ?_
    rintro e w' ⟨⟨r, rfl⟩, rfl⟩
    cases r <;> (go_wp2; go_ret; exact ⟨rfl, Below.refl _ _⟩)
  by_cases g2 : 65536 < n2
  · go_enter Try.func3, Try.ntmps3
    go_wp2_with fail
    refine Calls.mono B7.out ?_
    rintro e w' ⟨⟨r, rfl⟩, rfl⟩
    cases r <;> (go_wp2; go_ret; exact ⟨rfl, Below.refl _ _⟩)
  by_cases g3 : 1048576 < p.size
  · go_enter Try.func3, Try.ntmps3
    go_wp2_with fail
    refine Calls.mono B7.out ?_
    rintro e w' ⟨⟨r, rfl⟩, rfl⟩
    cases r <;> (go_wp2; go_ret; exact ⟨rfl, Below.refl _ _⟩)
  by_cases g4 : 1048576 < q.size
  · go_enter Try.func3, Try.ntmps3
    go_wp2_with fail
    refine Calls.mono B7.out ?_
    rintro e w' ⟨⟨r, rfl⟩, rfl⟩
    cases r <;> (go_wp2; go_ret; exact ⟨rfl, Below.refl _ _⟩)
  by_cases g5 : 1048576 < (p.size : Int) + q.size + 8 * n2
  · go_enter Try.func3, Try.ntmps3
    go_wp2_with fail
    refine Calls.mono B7.out ?_
    rintro e w' ⟨⟨r, rfl⟩, rfl⟩
    cases r <;> (go_wp2; go_ret; exact ⟨rfl, Below.refl _ _⟩)
  rcases hg with hg | hg | hg | hg | hg | hg <;> omega
end Go.Proofs.Qxb6616671a
