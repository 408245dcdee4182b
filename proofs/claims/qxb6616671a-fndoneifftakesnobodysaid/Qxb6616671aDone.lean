/-
  THE WALKS OF FnDoneIffTakesNobody's OWN CALLEES: zzBytes_FnDoneIffTakesNobody, ZZnewMember, Done, Takes.
-/
import Derived.Test.Qxb6616671aBase
namespace Go.Proofs.Qxb6616671a
open Go.RowKit


/-- A bool comes back. -/
def RetBool (e : Ending) : Prop := ∃ r : Bool, e = .returned (.bool r)

set_option maxHeartbeats 1000000 in
theorem bytes22_any (l : Bool) (a1 : Option Addr) (n1 c1 : Nat) (s1 : List ByteArray) (a2 : Option Addr) (n2 c2 : Nat) (s2 : List ByteArray) (p : ByteArray) (w : World) (h1 : HasStrs w a1 n1 c1 s1) (h2 : HasStrs w a2 n2 c2 s2) (hp : p.size ≤ maxLen) :
    Calls Try.prog 22 #[.bool l, .slice a1 n1 c1, .slice a2 n2 c2, .string p] w fun e w' => RetBool e ∧ w' = w := by
  have m1 : n1 ≤ 9223372036854775807 := by have := h1.le; have := h1.cap; unfold maxLen at this; omega
  have m2 : n2 ≤ 9223372036854775807 := by have := h2.le; have := h2.cap; unfold maxLen at this; omega
  unfold maxLen at hp
  by_cases g1 : 1048576 < n1
  · go_enter Try.func22, Try.ntmps22
    go_wp2
    go_ret
    exact ⟨⟨_, rfl⟩, rfl⟩
  · go_enter Try.func22, Try.ntmps22
    go_wp2
    go_loop [9, 10] (fun t i => ∃ (k : Nat) (r : Int), k ≤ n1 ∧ i = .int .i64 k ∧ t = .int .i64 r ∧ 0 ≤ r ∧ r ≤ 1048576) (fun _ i => n1 - (intOf i).toNat)
    case atStart => exact ⟨0, _, Nat.zero_le _, rfl, rfl, by omega, by omega⟩
    case round =>
      obtain ⟨k, r, hk, rfl, rfl, hr0, hr1⟩ := hrel
      by_cases hlt : k < n1
      · obtain ⟨b, off, rfl, hbl, hc0⟩ := h1.cells (by omega)
        have hcell := hc0 k hlt
        clear hc0
        generalize s1.getD k ByteArray.empty = s at hcell
        go_wp2
        · go_ret
          exact ⟨⟨_, rfl⟩, rfl⟩
        · go_ret
          exact ⟨⟨_, rfl⟩, rfl⟩
        · go_round
          case rel => exact ⟨k + 1, _, by omega, by go_num, rfl, by omega, by omega⟩
          case measure => simp [intOf]; omega
      · go_wp2
        · go_ret
          exact ⟨⟨_, rfl⟩, rfl⟩
        · go_ret
          exact ⟨⟨_, rfl⟩, rfl⟩
        · go_loop [9, 11] (fun t i => ∃ (k : Nat) (r : Int), k ≤ n2 ∧ i = .int .i64 k ∧ t = .int .i64 r ∧ 0 ≤ r ∧ r ≤ 1048576) (fun _ i => n2 - (intOf i).toNat)
          case atStart => exact ⟨0, _, Nat.zero_le _, rfl, rfl, by omega, by omega⟩
          case round =>
            obtain ⟨k2, r2, hk2, rfl, rfl, hr20, hr21⟩ := hrel
            by_cases hlt2 : k2 < n2
            · obtain ⟨b, off, rfl, hbl, hc0⟩ := h2.cells (by omega)
              have hcell := hc0 k2 hlt2
              clear hc0
              generalize s2.getD k2 ByteArray.empty = s at hcell
              go_wp2
              · go_ret
                exact ⟨⟨_, rfl⟩, rfl⟩
              · go_ret
                exact ⟨⟨_, rfl⟩, rfl⟩
              · go_round
                case rel => exact ⟨k2 + 1, _, by omega, by go_num, rfl, by omega, by omega⟩
                case measure => simp [intOf]; omega
            · go_wp2
              all_goals
                go_ret
                exact ⟨⟨_, rfl⟩, rfl⟩

/-! ### the member -/
/-- Block B holds a member: its cells 'left', 'told', 'awaited'. -/
structure Member (w : World) (B : Nat) (l : Bool) (v1 v2 : Value) : Prop where
  left : w.cell? ⟨B, 25, none⟩ = some (.bool l)
  told : w.cell? ⟨B, 26, none⟩ = some v1
  awaited : w.cell? ⟨B, 27, none⟩ = some v2

theorem Member.below {w w' : World} {B : Nat} {l : Bool} {v1 v2 : Value} (h : Member w B l v1 v2) (hb : Below w.heap.size w w') : Member w' B l v1 v2 :=
  ⟨cell_later hb h.left, cell_later hb h.told, cell_later hb h.awaited⟩

set_option maxHeartbeats 1000000 in
theorem newMember_any (l : Bool) (a1 : Option Addr) (n1 c1 : Nat) (a2 : Option Addr) (n2 c2 : Nat) (w : World) :
    Calls Try.prog 23 #[.bool l, .slice a1 n1 c1, .slice a2 n2 c2] w fun e w' => (∃ B, e = .returned (.pointer (some ⟨B, 0, none⟩)) ∧ Member w' B l (.slice a1 n1 c1) (.slice a2 n2 c2)) ∧ Below w.heap.size w w' := by
  go_enter Try.func23, Try.ntmps23
  go_wp2
  go_ret
  exact ⟨⟨w.heap.size + 1, rfl, by simp, by simp, by simp⟩, ((Below.refl _ _).alloc (Nat.le_refl _) _).alloc (by simp) _⟩

set_option maxHeartbeats 1000000 in
theorem done_any (B : Nat) (l : Bool) (a1 : Option Addr) (n1 c1 : Nat) (a2 : Option Addr) (n2 c2 : Nat) (w : World) (h : Member w B l (.slice a1 n1 c1) (.slice a2 n2 c2)) :
    Calls Try.prog 24 #[.pointer (some ⟨B, 0, none⟩)] w fun e w' => e = .returned (.bool (l && decide (n1 = 0) && decide (n2 = 0))) ∧ w' = w := by
  obtain ⟨hl, ht, ha⟩ := h
  cases l with
  | false =>
    go_enter Try.func24, Try.ntmps24
    go_wp2
    go_ret
    exact ⟨rfl, rfl⟩
  | true =>
    by_cases e1 : n1 = 0
    · subst e1
      by_cases e2 : n2 = 0
      · subst e2
        go_enter Try.func24, Try.ntmps24
        go_wp2
        go_ret
        exact ⟨rfl, rfl⟩
      · have e2' : ((n2 : Int) == 0) = false := by simp; omega
        go_enter Try.func24, Try.ntmps24
        go_wp2
        go_ret
        exact ⟨by simp [e2], rfl⟩
    · have e1' : ((n1 : Int) == 0) = false := by simp; omega
      go_enter Try.func24, Try.ntmps24
      go_wp2
      go_ret
      exact ⟨by simp [e1], rfl⟩

/-- Is x among the strings? -/
def inS (ss : List ByteArray) (x : ByteArray) : Bool := ss.any (fun s => x.toList == s.toList)

set_option maxHeartbeats 1000000 in
theorem takes_any (B : Nat) (l : Bool) (a1 : Option Addr) (n1 c1 : Nat) (s1 : List ByteArray) (a2 : Option Addr) (n2 c2 : Nat) (s2 : List ByteArray) (x : ByteArray) (w : World) (h : Member w B l (.slice a1 n1 c1) (.slice a2 n2 c2)) (h1 : HasStrs w a1 n1 c1 s1) (h2 : HasStrs w a2 n2 c2 s2) :
    Calls Try.prog 25 #[.pointer (some ⟨B, 0, none⟩), .string x] w fun e w' => e = .returned (.bool (!l || inS s1 x || inS s2 x)) ∧ w' = w := by
  obtain ⟨hl, ht, ha⟩ := h
  have k1 := contains_any a1 n1 c1 s1 x w h1
  have k2 := contains_any a2 n2 c2 s2 x w h2
  change Calls _ _ _ _ (fun e w' => e = .returned (.bool (inS s1 x)) ∧ w' = w) at k1
  change Calls _ _ _ _ (fun e w' => e = .returned (.bool (inS s2 x)) ∧ w' = w) at k2
  generalize inS s1 x = r1 at *
  generalize inS s2 x = r2 at *
  cases l with
  | false =>
    go_enter Try.func25, Try.ntmps25
    go_wp2
    go_ret
    exact ⟨rfl, rfl⟩
  | true =>
    cases r1 with
    | true =>
      have K1 := show Hid _ from k1
      clear k1 k2
      go_enter Try.func25, Try.ntmps25
      go_wp2_with (go_at_call 32; refine Calls.mono K1.out ?_; rintro e w' ⟨rfl, rfl⟩)
      go_ret
      exact ⟨rfl, rfl⟩
    | false =>
      have K1 := show Hid _ from k1
      have K2 := show Hid _ from k2
      clear k1 k2
      go_enter Try.func25, Try.ntmps25
      go_wp2_with fail
      refine Calls.mono K1.out ?_
      rintro e w' ⟨rfl, rfl⟩
      go_wp2_with fail
      refine Calls.mono K2.out ?_
      rintro e w' ⟨rfl, rfl⟩
      go_wp2
      go_ret
      exact ⟨rfl, rfl⟩
end Go.Proofs.Qxb6616671a
