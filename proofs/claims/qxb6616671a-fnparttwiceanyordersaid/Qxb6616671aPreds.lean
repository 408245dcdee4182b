/-
  Part's TWO PREDICATES; slices.IndexFunc at out-links and at openings, over them.
-/
import Derived.Test.Qxb6616671aLook
import Derived.Deep.QuietTactic
import Derived.BigQuiet
namespace Go.Proofs.Qxb6616671a
open Go.RowKit

theorem below_draws {B : Nat} {a w : World} (h : Below B a w) (n : Nat) : Below B a (w.drewN n) := ⟨h.os, h.tape, h.output, h.size, h.block⟩

/-- Is the name p? -/
def isP (p s : ByteArray) : Bool := s.toList == p.toList

set_option maxHeartbeats 1000000 in
theorem part1_any (s p : ByteArray) (P : Nat) (w : World) (hP : w.cell? ⟨P, 0, none⟩ = some (.string p)) :
    Calls Try.prog 27 #[.agg #[.string s, .bool false, .slice none 0 0, .int .i64 0], .pointer (some ⟨P, 0, none⟩)] w fun e w' => e = .returned (.bool (isP p s)) ∧ Below w.heap.size w w' := by
  have hlt := World.block_lt_of_cell? _ _ hP
  go_enter Try.func27, Try.ntmps27
  go_wp2
  go_ret
  exact ⟨rfl, (Below.refl _ _).alloc (Nat.le_refl _) _⟩

set_option maxHeartbeats 1000000 in
theorem part2_any (o : Opn) (p : ByteArray) (P : Nat) (w : World) (ho : IsOpn w o) (hP : w.cell? ⟨P, 0, none⟩ = some (.string p)) :
    Calls Try.prog 29 #[.pointer (some ⟨o.blk, 0, none⟩), .pointer (some ⟨P, 0, none⟩)] w fun e w' => e = .returned (.bool (isP p o.peer)) ∧ Below w.heap.size w w' := by
  have h0 := ho.peer0
  go_enter Try.func29, Try.ntmps29
  go_wp2_with fail
  go_quiet (fail)
  go_wp2
  go_ret
  exact ⟨rfl, below_draws (Below.refl _ _) _⟩

/-- What IndexFunc says of the answers bs: -1 and no yes; or the first yes. -/
def IdxOf (bs : List Bool) (r : Int) : Prop :=
  (r = -1 ∧ ∀ t, t < bs.length → bs.getD t false = false) ∨ ∃ t : Nat, r = t ∧ t < bs.length ∧ bs.getD t false = true ∧ ∀ j, j < t → bs.getD j false = false

/-- IndexFunc's ending. -/
def RetIdx (bs : List Bool) (e : Ending) : Prop := ∃ r : Int, e = .returned (.int .i64 r) ∧ IdxOf bs r

set_option maxHeartbeats 1000000 in
theorem idx34_any (a : Option Addr) (n cap : Nat) (os : List Opn) (p : ByteArray) (P : Nat) (w : World) (hn : os.length = n) (hsm : n ≤ 1000000)
    (hrow : ∀ t o, os[t]? = some o → ∃ g, a = some ⟨g, 0, none⟩ ∧ w.cell? ⟨g, t, none⟩ = some (.pointer (some ⟨o.blk, 0, none⟩))) (heach : ∀ o ∈ os, IsOpn w o) (hP : w.cell? ⟨P, 0, none⟩ = some (.string p)) :
    Calls Try.prog 34 #[.slice a n cap, .func (.func 29) #[] #[.pointer (some ⟨P, 0, none⟩)]] w fun e w' => RetIdx (os.map fun o => isP p o.peer) e ∧ Below w.heap.size w w' := by
  have hN : Hid (os.length = n) := hn
  have HR := show Hid _ from hrow
  have HE := show Hid _ from heach
  have HPP := show Hid _ from hP
  clear hn hrow heach hP
  go_enter Try.func34, Try.ntmps34
  go_wp2
  go_loopw [5, 8] (fun _ i wr => ∃ k : Nat, k ≤ n ∧ i = .int .i64 k ∧ Hid (Below w.heap.size w wr) ∧ Hid (∀ j, j < k → (os.map fun o => isP p o.peer).getD j false = false)) (fun _ i _ => n - (intOf i).toNat)
  case atStart => exact ⟨0, Nat.zero_le _, rfl, Below.refl _ _, fun j hj => absurd hj (Nat.not_lt_zero _)⟩
  case round =>
    obtain ⟨k, hk, rfl, hB, hno⟩ := hrel
    by_cases hlt : k < n
    · obtain ⟨o, ho⟩ : ∃ o, os[k]? = some o := ⟨_, List.getElem?_eq_getElem (by rw [hN.out]; exact hlt)⟩
      obtain ⟨g, rfl, hcell0⟩ := HR.out k o ho
      have hcell := cell_later hB.out hcell0
      have hopn := HE.out o (List.mem_of_getElem? ho)
      have hq := part2_any o p P wr (hopn.same (hB.out.block _ hopn.tag.lt)) (cell_later hB.out HPP.out)
      have hget : (os.map fun o => isP p o.peer).getD k false = isP p o.peer := by simp [List.getD_eq_getElem?_getD, ho]
      generalize isP p o.peer = r at hq hget
      have HQ := show Hid _ from hq
      have HGET := show Hid _ from hget
      clear hq hget ho hcell0 hopn
      cases r with
      | true =>
        go_wp2_with (go_at_call 29; refine Calls.mono HQ.out ?_; rintro e w1 ⟨rfl, hb1⟩)
        go_ret
        exact ⟨⟨k, rfl, .inr ⟨k, rfl, by simpa [hN.out] using hlt, HGET.out, hno.out⟩⟩, hB.out.trans (hb1.mono hB.out.size)⟩
      | false =>
        go_wp2_with (go_at_call 29; refine Calls.mono HQ.out ?_; rintro e w1 ⟨rfl, hb1⟩)
        go_roundw
        case rel =>
          refine ⟨k + 1, by omega, by go_num, hB.out.trans (hb1.mono hB.out.size), fun j hj => ?_⟩
          by_cases e : j = k
          · subst e; exact HGET.out
          · exact hno.out j (by omega)
        case measure => simp [intOf]; omega
    · have : k = n := by omega
      subst this
      go_wp2
      go_ret
      exact ⟨⟨-1, rfl, .inl ⟨rfl, fun t ht => hno.out t (by simpa [hN.out] using ht)⟩⟩, hB.out⟩

set_option maxHeartbeats 1000000 in
theorem idx33_any (a : Option Addr) (n cap : Nat) (os : List ByteArray) (p : ByteArray) (P : Nat) (w : World) (hn : os.length = n) (hsm : n ≤ 1000000)
    (hrow : ∀ t o, os[t]? = some o → ∃ g, a = some ⟨g, 0, none⟩ ∧ w.cell? ⟨g, t * 4, none⟩ = some (.string o) ∧ w.cell? ⟨g, t * 4 + 1, none⟩ = some (.bool false) ∧ w.cell? ⟨g, t * 4 + 2, none⟩ = some (.slice none 0 0) ∧ w.cell? ⟨g, t * 4 + 3, none⟩ = some (.int .i64 0)) (hP : w.cell? ⟨P, 0, none⟩ = some (.string p)) :
    Calls Try.prog 33 #[.slice a n cap, .func (.func 27) #[] #[.pointer (some ⟨P, 0, none⟩)]] w fun e w' => RetIdx (os.map fun o => isP p o) e ∧ Below w.heap.size w w' := by
  have hN : Hid (os.length = n) := hn
  have HR := show Hid _ from hrow
  have HPP := show Hid _ from hP
  clear hn hrow hP
  go_enter Try.func33, Try.ntmps33
  go_wp2
  go_loopw [5, 8] (fun _ i wr => ∃ k : Nat, k ≤ n ∧ i = .int .i64 k ∧ Hid (Below w.heap.size w wr) ∧ Hid (∀ j, j < k → (os.map fun o => isP p o).getD j false = false)) (fun _ i _ => n - (intOf i).toNat)
  case atStart => exact ⟨0, Nat.zero_le _, rfl, Below.refl _ _, fun j hj => absurd hj (Nat.not_lt_zero _)⟩
  case round =>
    obtain ⟨k, hk, rfl, hB, hno⟩ := hrel
    by_cases hlt : k < n
    · obtain ⟨o, ho⟩ : ∃ o, os[k]? = some o := ⟨_, List.getElem?_eq_getElem (by rw [hN.out]; exact hlt)⟩
      obtain ⟨g, rfl, c0, c1, c2, c3⟩ := HR.out k o ho
      replace c0 := cell_later hB.out c0
      replace c1 := cell_later hB.out c1
      replace c2 := cell_later hB.out c2
      replace c3 := cell_later hB.out c3
      have hq := part1_any o p P wr (cell_later hB.out HPP.out)
      have hget : (os.map fun o => isP p o).getD k false = isP p o := by simp [List.getD_eq_getElem?_getD, ho]
      generalize isP p o = r at hq hget
      have HQ := show Hid _ from hq
      have HGET := show Hid _ from hget
      clear hq hget ho
      cases r with
      | true =>
        go_wp2_with (go_at_call 27; refine Calls.mono HQ.out ?_; rintro e w1 ⟨rfl, hb1⟩)
        go_ret
        exact ⟨⟨k, rfl, .inr ⟨k, rfl, by simpa [hN.out] using hlt, HGET.out, hno.out⟩⟩, hB.out.trans (hb1.mono hB.out.size)⟩
      | false =>
        go_wp2_with (go_at_call 27; refine Calls.mono HQ.out ?_; rintro e w1 ⟨rfl, hb1⟩)
        go_roundw
        case rel =>
          refine ⟨k + 1, by omega, by go_num, hB.out.trans (hb1.mono hB.out.size), fun j hj => ?_⟩
          by_cases e : j = k
          · subst e; exact HGET.out
          · exact hno.out j (by omega)
        case measure => simp [intOf]; omega
    · have : k = n := by omega
      subst this
      go_wp2
      go_ret
      exact ⟨⟨-1, rfl, .inl ⟨rfl, fun t ht => hno.out t (by simpa [hN.out] using ht)⟩⟩, hB.out⟩
end Go.Proofs.Qxb6616671a
