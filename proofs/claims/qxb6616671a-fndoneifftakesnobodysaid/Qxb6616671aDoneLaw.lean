/-
  THE WALK OF FnDoneIffTakesNobody.
-/
import Derived.Test.Qxb6616671aDone
namespace Go.Proofs.Qxb6616671a
open Go.RowKit

theorem inS_get (ss : List ByteArray) (k : Nat) (hk : k < ss.length) : inS ss (ss.getD k ByteArray.empty) = true := any_of_hit ss _ k hk (by simp)

set_option maxHeartbeats 2000000 in
theorem law6_any (l : Bool) (a1 : Option Addr) (n1 c1 : Nat) (s1 : List ByteArray) (a2 : Option Addr) (n2 c2 : Nat) (s2 : List ByteArray) (p : ByteArray) (w : World) (h1 : HasStrs w a1 n1 c1 s1) (h2 : HasStrs w a2 n2 c2 s2) (hp : p.size ≤ maxLen) :
    Calls Try.prog 6 #[.bool l, .slice a1 n1 c1, .slice a2 n2 c2, .string p] w fun e w' => e = .returned (.bool true) ∧ Below w.heap.size w w' := by
  have B22 := show Hid _ from bytes22_any l a1 n1 c1 s1 a2 n2 c2 s2 p w h1 h2 hp
  unfold maxLen at hp
  by_cases g1 : 65536 < n1
  · go_enter Try.func6, Try.ntmps6
    go_wp2_with fail
    refine Calls.mono B22.out ?_
    rintro e w' ⟨⟨r, rfl⟩, rfl⟩
    cases r <;> (go_wp2; go_ret; exact ⟨rfl, Below.refl _ _⟩)
  by_cases g2 : 65536 < n2
  · go_enter Try.func6, Try.ntmps6
    go_wp2_with fail
    refine Calls.mono B22.out ?_
    rintro e w' ⟨⟨r, rfl⟩, rfl⟩
    cases r <;> (go_wp2; go_ret; exact ⟨rfl, Below.refl _ _⟩)
  by_cases g3 : 1048576 < p.size
  · go_enter Try.func6, Try.ntmps6
    go_wp2_with fail
    refine Calls.mono B22.out ?_
    rintro e w' ⟨⟨r, rfl⟩, rfl⟩
    cases r <;> (go_wp2; go_ret; exact ⟨rfl, Below.refl _ _⟩)
  go_enter Try.func6, Try.ntmps6
  go_wp2_with fail
  refine Calls.mono B22.out ?_
  rintro e w' ⟨⟨r, rfl⟩, rfl⟩
  cases r with
  | false => go_wp2; go_ret; exact ⟨rfl, Below.refl _ _⟩
  | true =>
    go_wp2_with fail
    refine (addStrs_any _ _ _ _ _ _ h1).mono ?_
    rintro e w' ⟨⟨t1, rfl⟩, rfl⟩
    by_cases g4 : 1048576 < t1
    · go_wp2; go_ret; exact ⟨rfl, Below.refl _ _⟩
    go_wp2_with fail
    refine (addStrs_any _ _ _ _ _ _ h2).mono ?_
    rintro e w' ⟨⟨t2, rfl⟩, rfl⟩
    by_cases g5 : 1048576 < t2
    · go_wp2; go_ret; exact ⟨rfl, Below.refl _ _⟩
    cases l with
    | false =>
      by_cases e1 : 0 < n1
      · go_wp2; go_ret; exact ⟨rfl, Below.refl _ _⟩
      by_cases e2 : 0 < n2
      · go_wp2; go_ret; exact ⟨rfl, Below.refl _ _⟩
      obtain rfl : n1 = 0 := by omega
      obtain rfl : n2 = 0 := by omega
      go_wp2_with fail
      refine (cloneStrs_any _ _ _ s1 _ h1 (by omega)).mono ?_
      rintro e w1 ⟨⟨a1', c1', rfl, h1'⟩, hb1⟩
      replace h2 := h2.below (Nat.le_refl _) hb1
      go_wp2_with fail
      refine (cloneStrs_any _ _ _ s2 _ h2 (by omega)).mono ?_
      rintro e w2 ⟨⟨a2', c2', rfl, h2'⟩, hb2⟩
      replace h1' := h1'.below (Nat.le_refl _) hb2
      replace hb2 := hb1.trans (hb2.mono hb1.size)
      clear h1 h2 hb1
      go_wp2_with fail
      refine (cloneStrs_any _ _ _ s1 _ h1' (by omega)).mono ?_
      rintro e w3 ⟨⟨a3', c3', rfl, h3'⟩, hb3⟩
      replace h1' := h1'.below (Nat.le_refl _) hb3
      replace h2' := h2'.below (Nat.le_refl _) hb3
      replace hb3 := hb2.trans (hb3.mono hb2.size)
      clear hb2
      go_wp2_with fail
      refine (cloneStrs_any _ _ _ s2 _ h2' (by omega)).mono ?_
      rintro e w4 ⟨⟨a4', c4', rfl, h4'⟩, hb4⟩
      replace h1' := h1'.below (Nat.le_refl _) hb4
      replace h2' := h2'.below (Nat.le_refl _) hb4
      replace h3' := h3'.below (Nat.le_refl _) hb4
      replace hb4 := hb3.trans (hb4.mono hb3.size)
      clear hb3
      go_wp2_with fail
      refine (newMember_any _ _ _ _ _ _ _ _).mono ?_
      rintro e w5 ⟨⟨B, rfl, hM⟩, hb5⟩
      replace h1' := h1'.below (Nat.le_refl _) hb5
      replace h2' := h2'.below (Nat.le_refl _) hb5
      replace h3' := h3'.below (Nat.le_refl _) hb5
      replace h4' := h4'.below (Nat.le_refl _) hb5
      replace hb5 := hb4.trans (hb5.mono hb4.size)
      clear hb4
      go_wp2_with fail
      refine (done_any _ _ _ _ _ _ _ _ _ hM).mono ?_
      rintro e w' ⟨rfl, rfl⟩
      go_wp2_with fail
      refine (takes_any _ _ _ _ _ s1 _ _ _ s2 _ _ hM h3' h4').mono ?_
      rintro e w' ⟨rfl, rfl⟩
      go_wp2
      go_ret
      exact ⟨by simp, hb5⟩
    | true =>
      go_wp2_with fail
      refine (cloneStrs_any _ _ _ s1 _ h1 (by omega)).mono ?_
      rintro e w1 ⟨⟨a1', c1', rfl, h1'⟩, hb1⟩
      replace h2 := h2.below (Nat.le_refl _) hb1
      go_wp2_with fail
      refine (cloneStrs_any _ _ _ s2 _ h2 (by omega)).mono ?_
      rintro e w2 ⟨⟨a2', c2', rfl, h2'⟩, hb2⟩
      replace h1' := h1'.below (Nat.le_refl _) hb2
      replace hb2 := hb1.trans (hb2.mono hb1.size)
      clear h1 h2 hb1
      go_wp2_with fail
      refine (cloneStrs_any _ _ _ s1 _ h1' (by omega)).mono ?_
      rintro e w3 ⟨⟨a3', c3', rfl, h3'⟩, hb3⟩
      replace h1' := h1'.below (Nat.le_refl _) hb3
      replace h2' := h2'.below (Nat.le_refl _) hb3
      replace hb3 := hb2.trans (hb3.mono hb2.size)
      clear hb2
      go_wp2_with fail
      refine (cloneStrs_any _ _ _ s2 _ h2' (by omega)).mono ?_
      rintro e w4 ⟨⟨a4', c4', rfl, h4'⟩, hb4⟩
      replace h1' := h1'.below (Nat.le_refl _) hb4
      replace h2' := h2'.below (Nat.le_refl _) hb4
      replace h3' := h3'.below (Nat.le_refl _) hb4
      replace hb4 := hb3.trans (hb4.mono hb3.size)
      clear hb3
      go_wp2_with fail
      refine (newMember_any _ _ _ _ _ _ _ _).mono ?_
      rintro e w5 ⟨⟨B, rfl, hM⟩, hb5⟩
      replace h1' := h1'.below (Nat.le_refl _) hb5
      replace h2' := h2'.below (Nat.le_refl _) hb5
      replace h3' := h3'.below (Nat.le_refl _) hb5
      replace h4' := h4'.below (Nat.le_refl _) hb5
      replace hb5 := hb4.trans (hb5.mono hb4.size)
      clear hb4
      go_wp2_with fail
      refine (done_any _ _ _ _ _ _ _ _ _ hM).mono ?_
      rintro e w' ⟨rfl, rfl⟩
      go_wp2_with fail
      have hTP := takes_any _ _ _ _ _ s1 _ _ _ s2 p _ hM h3' h4'
      generalize hq : (!true || inS s1 p || inS s2 p) = tp at hTP
      have HQ := show Hid _ from hq
      clear hq
      refine hTP.mono ?_
      rintro e w' ⟨rfl, rfl⟩
      clear hTP
      have hl1 := h1'.len
      have hl2 := h2'.len
      by_cases e1 : 0 < n1
      · obtain ⟨b1, o1, rfl, _, hc1⟩ := h1'.cells e1
        have hcell1 : w'.cell? ⟨b1, o1, none⟩ = some (.string (s1.getD 0 ByteArray.empty)) := by simpa using hc1 0 e1
        have hT1 := takes_any _ _ _ _ _ s1 _ _ _ s2 (s1.getD 0 ByteArray.empty) _ hM h3' h4'
        rw [show (!true || inS s1 (s1.getD 0 ByteArray.empty) || inS s2 (s1.getD 0 ByteArray.empty)) = true from by rw [inS_get s1 0 (by omega)]; simp] at hT1
        clear hc1
        generalize s1.getD 0 ByteArray.empty = x1 at hcell1 hT1
        have HT1 := show Hid _ from hT1
        clear hT1
        go_wp2_with fail
        refine Calls.mono HT1.out ?_
        rintro e w' ⟨rfl, rfl⟩
        by_cases e2 : 0 < n2
        · obtain ⟨b2, o2, rfl, _, hc2⟩ := h2'.cells e2
          have hcell2 := hc2 (n2 - 1) (by omega)
          have hT2 := takes_any _ _ _ _ _ s1 _ _ _ s2 (s2.getD (n2 - 1) ByteArray.empty) _ hM h3' h4'
          rw [show (!true || inS s1 (s2.getD (n2 - 1) ByteArray.empty) || inS s2 (s2.getD (n2 - 1) ByteArray.empty)) = true from by rw [inS_get s2 (n2 - 1) (by omega)]; simp] at hT2
          clear hc2
          generalize s2.getD (n2 - 1) ByteArray.empty = x2 at hcell2 hT2
          have HT2 := show Hid _ from hT2
          clear hT2
          have hsub : ((n2 : Int) - 1).toNat = n2 - 1 := by omega
          go_wp2_with fail
          refine Calls.mono HT2.out ?_
          rintro e w' ⟨rfl, rfl⟩
          have n1z : ((n1 : Int) == 0) = false := by simp; omega
          have n2z : ((n2 : Int) == 0) = false := by simp; omega
          have n1y : ¬ n1 = 0 := by omega
          cases tp <;> (go_wp2; go_ret; exact ⟨by simp, hb5⟩)
        · obtain rfl : n2 = 0 := by omega
          have n1z : ((n1 : Int) == 0) = false := by simp; omega
          have n1y : ¬ n1 = 0 := by omega
          cases tp <;> (go_wp2; go_ret; exact ⟨by simp, hb5⟩)
      · obtain rfl : n1 = 0 := by omega
        obtain rfl : s1 = [] := List.eq_nil_of_length_eq_zero hl1
        by_cases e2 : 0 < n2
        · obtain ⟨b2, o2, rfl, _, hc2⟩ := h2'.cells e2
          have hcell2 := hc2 (n2 - 1) (by omega)
          have hT2 := takes_any _ _ _ _ _ [] _ _ _ s2 (s2.getD (n2 - 1) ByteArray.empty) _ hM h3' h4'
          rw [show (!true || inS [] (s2.getD (n2 - 1) ByteArray.empty) || inS s2 (s2.getD (n2 - 1) ByteArray.empty)) = true from by rw [inS_get s2 (n2 - 1) (by omega)]; simp] at hT2
          clear hc2
          generalize s2.getD (n2 - 1) ByteArray.empty = x2 at hcell2 hT2
          have HT2 := show Hid _ from hT2
          clear hT2
          have hsub : ((n2 : Int) - 1).toNat = n2 - 1 := by omega
          go_wp2_with fail
          refine Calls.mono HT2.out ?_
          rintro e w' ⟨rfl, rfl⟩
          have n2z : ((n2 : Int) == 0) = false := by simp; omega
          have n2y : ¬ n2 = 0 := by omega
          cases tp <;> (go_wp2; go_ret; exact ⟨by simp, hb5⟩)
        · obtain rfl : n2 = 0 := by omega
          obtain rfl : s2 = [] := List.eq_nil_of_length_eq_zero hl2
          obtain rfl : tp = false := HQ.out.symm
          go_wp2
          go_ret
          exact ⟨by simp, hb5⟩
end Go.Proofs.Qxb6616671a
