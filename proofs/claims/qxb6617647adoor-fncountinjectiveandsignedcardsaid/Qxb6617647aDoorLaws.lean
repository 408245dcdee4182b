/-
  THE WALKS OF THE TWO LAWS.
-/
import Derived.Test.Qxb6617647aDoorReads
import Derived.Lib.ItoaLen
namespace Go.Proofs.Qxb6617647aDoor
open Go.RowKit

theorem bs_toList (l : List UInt8) : (bs l).toList = l := by
  rw [ByteArray.toList_eq]
  show l.toArray.toList = l
  simp

theorem word_low (k : Nat) : (∀ c ∈ word k, 97 ≤ c.toNat ∧ c.toNat ≤ 122) ∧ 0 < (word k).length ∧ (word k).length ≤ 100 := by
  unfold word
  split <;> decide

theorem small_word (n : Int) (h0 : 0 ≤ n) (h1 : n < 10) : cnt n = word n.toNat := by unfold cnt; rw [if_pos ⟨h0, h1⟩]

theorem dec_short (n : Int) (h0 : -9223372036854775808 ≤ n) (h1 : n ≤ 9223372036854775807) : (Lib.decDigits n.natAbs).length ≤ 99 := by
  have := Lib.itoa_length_le n h0 h1
  unfold Lib.itoa at this
  split at this
  · simp at this; omega
  · rename_i h
    have e : n.toNat = n.natAbs := by omega
    rw [e] at this
    omega

set_option maxRecDepth 100000 in
set_option maxHeartbeats 1000000 in
theorem law3_any (n : Int) (h0 : -9223372036854775808 ≤ n) (h1 : n ≤ 9223372036854775807) (w : World) (htab : Lib.TabIs Tryd.prog w powName .u64 Lib.pow10Tab) :
    Calls Tryd.prog 3 #[.int .i64 n] w fun e w' => e = .returned (.bool true) ∧ Below w.heap.size w w' := by
  have hc := show Hid _ from zzcount_any n h0 h1 w htab
  clear htab
  by_cases hs : 0 ≤ n ∧ n < 10
  · have e := small_word n hs.1 hs.2
    obtain ⟨w1, w2, w3⟩ := word_low n.toNat
    have hl : Hid (∀ W, Calls Tryd.prog 6 #[.string (bs (cnt n))] W fun e w' => e = .returned (.bool true) ∧ w' = W) := fun W => by
      rw [e]
      refine lower_any _ W (by rw [bs_size]; exact w2) (by rw [bs_size]; exact w3) fun k h => ?_
      rw [byte_at]
      have := w1 _ (List.getElem_mem (show k < (word n.toNat).length by rw [← bs_size]; exact h))
      omega
    clear e w1 w2 w3
    generalize bs (cnt n) = s at *
    obtain ⟨g0, g1⟩ := hs
    go_enter Tryd.func3, Tryd.ntmps3
    go_wp2_with fail
    refine Calls.mono hc.out ?_
    rintro e W ⟨rfl, hb⟩
    go_wp2_with fail
    refine Calls.mono (hl.out _) ?_
    rintro e W1 ⟨rfl, rfl⟩
    go_wp2
    go_ret
    exact ⟨rfl, hb⟩
  · have hr : Hid (∀ W, Calls Tryd.prog 7 #[.string (bs (cnt n)), .int .i64 n] W fun e w' => e = .returned (.bool true) ∧ w' = W) := fun W => by
      have e : cnt n = Lib.itoa n := by unfold cnt; rw [if_neg hs]
      rw [e]
      have hlen := dec_short n h0 h1
      by_cases hn : n < 0
      · have e2 : Lib.itoa n = 45 :: Lib.decDigits n.natAbs := by unfold Lib.itoa; rw [if_pos hn]
        rw [e2]
        exact reads_neg _ n n.natAbs _ W (numeral_neg n.natAbs (by omega) hlen) (by rw [byte_at]; rfl) (by omega) (by omega) (by omega)
      · have e2 : Lib.itoa n = Lib.decDigits n.natAbs := by
          unfold Lib.itoa
          rw [if_neg hn, show n.toNat = n.natAbs from by omega]
        rw [e2]
        exact reads_pos _ n n.natAbs _ W (numeral_pos n.natAbs (by omega) hlen) (by omega) (by omega)
    generalize bs (cnt n) = s at *
    rcases (show n < 0 ∨ 10 ≤ n from by omega) with hn | hn
    all_goals
      clear hs
      go_enter Tryd.func3, Tryd.ntmps3
      go_wp2_with fail
      refine Calls.mono hc.out ?_
      rintro e W ⟨rfl, hb⟩
      go_wp2_with fail
      refine Calls.mono (hr.out _) ?_
      rintro e W1 ⟨rfl, rfl⟩
      go_wp2
      go_ret
      exact ⟨rfl, hb⟩

set_option maxRecDepth 100000 in
set_option maxHeartbeats 1000000 in
theorem law4_any (a b : Int) (h0 : -9223372036854775808 ≤ a) (h1 : a ≤ 9223372036854775807) (h2 : -9223372036854775808 ≤ b) (h3 : b ≤ 9223372036854775807) (w : World) (htab : Lib.TabIs Tryd.prog w powName .u64 Lib.pow10Tab) :
    Calls Tryd.prog 4 #[.int .i64 a, .int .i64 b] w fun e w' => e = .returned (.bool true) ∧ Below w.heap.size w w' := by
  have HT := show Hid _ from Lib.tabBelow_of_tabIs htab
  clear htab
  have hc : Hid (∀ (n : Int), -9223372036854775808 ≤ n → n ≤ 9223372036854775807 → ∀ W, Below w.heap.size w W → Calls Tryd.prog 5 #[.int .i64 n] W fun e w' => e = .returned (.string (bs (cnt n))) ∧ Below W.heap.size W w') := fun n g0 g1 W hW => zzcount_any n g0 g1 W (HT.out W hW)
  have heq : ((bs (cnt a)).toList == (bs (cnt b)).toList) = (a == b) := by
    rw [bs_toList, bs_toList, Bool.eq_iff_iff]
    simp only [beq_iff_eq]
    exact ⟨cnt_inj, fun e => by rw [e]⟩
  have hng : 10 ≤ a → (bs (cnt (-a))).toList = 45 :: (bs (cnt a)).toList := fun h => by rw [bs_toList, bs_toList, cnt_neg a h]
  have HNG := show Hid _ from hng
  have hsz : (bs (cnt a)).size ≤ 100 := by
    rw [bs_size]
    unfold cnt
    split
    · exact (word_low _).2.2
    · exact Nat.le_trans (Lib.itoa_length_le a h0 h1) (by decide)
  have c1 := show Hid _ from hc.out a h0 h1 w (Below.refl _ _)
  have hc2 := show Hid _ from hc.out b h2 h3
  have hc3 := show Hid _ from hc.out (-a)
  clear hng hc HT
  generalize bs (cnt a) = sa at *
  generalize bs (cnt b) = sb at *
  generalize bs (cnt (-a)) = sn at *
  have hcat : 10 ≤ a → (sn.toList == (({ data := #[45] } : ByteArray) ++ sa).toList) = true := fun h => by
    rw [HNG.out h, beq_iff_eq, ByteArray.toList_eq (_ ++ sa), ByteArray.data_append, Array.toList_append, ByteArray.toList_eq sa]
    rfl
  cases hab : (a == b) with
  | true =>
    rw [hab] at heq
    go_enter Tryd.func4, Tryd.ntmps4
    go_wp2_with fail
    refine Calls.mono c1.out ?_
    rintro e W ⟨rfl, hb⟩
    go_wp2_with fail
    refine Calls.mono (hc2.out W hb) ?_
    rintro e W2 ⟨rfl, hb2⟩
    replace hb2 := hb.trans (hb2.mono hb.size)
    by_cases h10 : 10 ≤ a
    · have hcc := hcat h10
      clear hcat
      go_wp2_with fail
      refine Calls.mono (hc3.out (by omega) (by omega) W2 hb2) ?_
      rintro e W3 ⟨rfl, hb3⟩
      replace hb3 := hb2.trans (hb3.mono hb2.size)
      go_wp2
      go_ret
      exact ⟨rfl, hb3⟩
    · clear hcat
      go_wp2
      go_ret
      exact ⟨rfl, hb2⟩
  | false =>
    rw [hab] at heq
    go_enter Tryd.func4, Tryd.ntmps4
    go_wp2_with fail
    refine Calls.mono c1.out ?_
    rintro e W ⟨rfl, hb⟩
    go_wp2_with fail
    refine Calls.mono (hc2.out W hb) ?_
    rintro e W2 ⟨rfl, hb2⟩
    replace hb2 := hb.trans (hb2.mono hb.size)
    by_cases h10 : 10 ≤ a
    · have hcc := hcat h10
      clear hcat
      go_wp2_with fail
      refine Calls.mono (hc3.out (by omega) (by omega) W2 hb2) ?_
      rintro e W3 ⟨rfl, hb3⟩
      replace hb3 := hb2.trans (hb3.mono hb2.size)
      go_wp2
      go_ret
      exact ⟨rfl, hb3⟩
    · clear hcat
      go_wp2
      go_ret
      exact ⟨rfl, hb2⟩
end Go.Proofs.Qxb6617647aDoor
