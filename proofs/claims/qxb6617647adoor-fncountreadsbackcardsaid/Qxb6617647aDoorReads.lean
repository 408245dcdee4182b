/-
  THE WALK OF zzReadsBackAs.
-/
import Derived.Test.Qxb6617647aDoorWalk
namespace Go.Proofs.Qxb6617647aDoor
open Go.RowKit

/-- What is asked of a numeral that begins at place i0: its digits; the value V of what has been read. -/
structure Numeral (s : ByteArray) (i0 : Nat) (u : Nat) (V : Nat → Nat) : Prop where
  lt : i0 < s.size
  small : s.size ≤ 100
  dig : ∀ k (h : k < s.size), i0 ≤ k → 48 ≤ (s[k].toNat : Int) ∧ (s[k].toNat : Int) ≤ 57
  first : 49 ≤ (s[i0].toNat : Int)
  start : V i0 = 0
  step : ∀ k (h : k < s.size), i0 ≤ k → (V (k + 1) : Int) = V k * 10 + (s[k].toNat - 48)
  le : ∀ k, V k ≤ u
  done : V s.size = u

set_option maxHeartbeats 1000000 in
theorem reads_pos (s : ByteArray) (n : Int) (u : Nat) (V : Nat → Nat) (w : World) (hN : Numeral s 0 u V) (hn : n = (u : Int)) (hu : u ≤ 9223372036854775807) :
    Calls Tryd.prog 7 #[.string s, .int .i64 n] w fun e w' => e = .returned (.bool true) ∧ w' = w := by
  have h0 := hN.lt
  have hs := hN.small
  have hf := hN.first
  have hz : ((s.size : Int) == 0) = false := beq_eq_false_iff_ne.2 (by omega)
  have hm : ((s[0].toNat : Int) == 45) = false := beq_eq_false_iff_ne.2 (by omega)
  have hm2 : ((s[0].toNat : Int) == 48) = false := beq_eq_false_iff_ne.2 (by omega)
  have hne : ¬ s = ByteArray.empty := by rintro rfl; simp at h0
  subst hn
  go_enter Tryd.func7, Tryd.ntmps7
  go_wp2
  go_loop [5, 7, 8, 9] (fun i m _ _ => ∃ k : Nat, k ≤ s.size ∧ i = .int .i64 k ∧ m = .int .u64 (V k)) (fun i _ _ _ => s.size - (intOf i).toNat)
  case atStart => exact ⟨0, Nat.zero_le _, rfl, by rw [hN.start]; rfl⟩
  case round =>
    obtain ⟨k, hk, rfl, rfl⟩ := hrel
    by_cases hlt : k < s.size
    · obtain ⟨a1, a2⟩ := hN.dig k hlt (Nat.zero_le _)
      have hst := hN.step k hlt (Nat.zero_le _)
      have hle1 := hN.le k
      have hle2 := hN.le (k + 1)
      have HST := show Hid _ from hst
      have hb : (V k : Int) * 10 + ((s[k].toNat : Int) - 48) ≤ 9223372036854775807 := by rw [← hst]; omega
      clear hst
      go_wp2
      go_round
      case rel => exact ⟨k + 1, by omega, by go_num, by rw [HST.out]⟩
      case measure => simp [intOf]; omega
    · obtain rfl : k = s.size := by omega
      have hd := hN.done
      rw [hd]
      have hun : ¬ (u : Int) < 0 := by omega
      go_wp2
      go_ret
      exact ⟨rfl, rfl⟩

set_option maxHeartbeats 1000000 in
theorem reads_neg (s : ByteArray) (n : Int) (u : Nat) (V : Nat → Nat) (w : World) (hN : Numeral s 1 u V) (h45 : (s[0]'(Nat.lt_trans Nat.zero_lt_one hN.lt)).toNat = 45) (hn : n = -(u : Int)) (hu1 : 1 ≤ u) (hu : u ≤ 9223372036854775808) :
    Calls Tryd.prog 7 #[.string s, .int .i64 n] w fun e w' => e = .returned (.bool true) ∧ w' = w := by
  have h1 := hN.lt
  have h0 : 0 < s.size := by omega
  have hs := hN.small
  have hf := hN.first
  have hz : ((s.size : Int) == 0) = false := beq_eq_false_iff_ne.2 (by omega)
  have hm : ((s[0].toNat : Int) == 45) = true := by rw [h45]; rfl
  have hm2 : ((s[1].toNat : Int) == 48) = false := beq_eq_false_iff_ne.2 (by omega)
  have hne : ¬ s = ByteArray.empty := by rintro rfl; simp at h0
  clear h45
  subst hn
  go_enter Tryd.func7, Tryd.ntmps7
  go_wp2
  go_loop [5, 7, 8, 9] (fun i m _ _ => ∃ k : Nat, 1 ≤ k ∧ k ≤ s.size ∧ i = .int .i64 k ∧ m = .int .u64 (V k)) (fun i _ _ _ => s.size - (intOf i).toNat)
  case atStart => exact ⟨1, Nat.le_refl _, by omega, rfl, by rw [hN.start]; rfl⟩
  case round =>
    obtain ⟨k, hk1, hk, rfl, rfl⟩ := hrel
    by_cases hlt : k < s.size
    · obtain ⟨a1, a2⟩ := hN.dig k hlt hk1
      have hst := hN.step k hlt hk1
      have hle1 := hN.le k
      have hle2 := hN.le (k + 1)
      have HST := show Hid _ from hst
      have hb : (V k : Int) * 10 + ((s[k].toNat : Int) - 48) ≤ 9223372036854775808 := by rw [← hst]; omega
      clear hst
      go_wp2
      go_round
      case rel => exact ⟨k + 1, by omega, by omega, by go_num, by rw [HST.out]⟩
      case measure => simp [intOf]; omega
    · obtain rfl : k = s.size := by omega
      have hd := hN.done
      rw [hd]
      have hun : -(u : Int) < 0 := by omega
      have hn1 : -9223372036854775808 ≤ -(u : Int) := by omega
      go_wp2
      go_ret
      exact ⟨congrArg (fun b => Ending.returned (.bool b)) (beq_iff_eq.2 (by omega)), rfl⟩

/-! ### the numerals that count hands back are such -/
theorem bs_size (l : List UInt8) : (bs l).size = l.length := by
  show l.toArray.size = _
  simp
theorem byte_at (l : List UInt8) (k : Nat) (h : k < (bs l).size) : (bs l)[k] = l[k]'(by rw [← bs_size]; exact h) := by
  have h' : k < l.toArray.size := h
  exact (show (bs l)[k] = l.toArray[k]'h' from rfl).trans (List.getElem_toArray h')

theorem numeral_pos (u : Nat) (hu : 1 ≤ u) (hs : (Lib.decDigits u).length ≤ 99) : Numeral (bs (Lib.decDigits u)) 0 u (fun k => val ((Lib.decDigits u).take k)) := by
  obtain ⟨h1, h2, h3, h4⟩ := dec_facts u
  have hsz : (bs (Lib.decDigits u)).size = (Lib.decDigits u).length := bs_size _
  have hpos : 0 < (Lib.decDigits u).length := List.length_pos_iff.2 h4
  refine ⟨by rw [hsz]; exact hpos, by rw [hsz]; omega, fun k h _ => ?_, ?_, rfl, fun k h _ => ?_, fun k => ?_, ?_⟩
  · rw [byte_at]
    have := h1 _ (List.getElem_mem (by rw [← bs_size]; exact h))
    omega
  · obtain ⟨c, r, e, hc⟩ := h3 hu
    rw [byte_at]
    have e0 : (Lib.decDigits u)[0] = c := by simp [e]
    rw [e0]
    omega
  · rw [byte_at]
    have hk : k < (Lib.decDigits u).length := by rw [← bs_size]; exact h
    have := h1 _ (List.getElem_mem hk)
    show ((val ((Lib.decDigits u).take (k + 1)) : Nat) : Int) = _
    rw [List.take_succ_eq_append_getElem hk, val_snoc]
    omega
  · have := val_take (Lib.decDigits u) k
    show val ((Lib.decDigits u).take k) ≤ u
    omega
  · show val ((Lib.decDigits u).take _) = u
    rw [hsz, List.take_of_length_le (Nat.le_refl _), h2]

theorem numeral_neg (u : Nat) (hu : 1 ≤ u) (hs : (Lib.decDigits u).length ≤ 99) : Numeral (bs (45 :: Lib.decDigits u)) 1 u (fun k => val ((Lib.decDigits u).take (k - 1))) := by
  obtain ⟨h1, h2, h3, h4⟩ := dec_facts u
  have hsz : (bs (45 :: Lib.decDigits u)).size = (Lib.decDigits u).length + 1 := bs_size _
  have hpos : 0 < (Lib.decDigits u).length := List.length_pos_iff.2 h4
  refine ⟨by rw [hsz]; omega, by rw [hsz]; omega, fun k h hk1 => ?_, ?_, rfl, fun k h hk1 => ?_, fun k => ?_, ?_⟩
  · rw [byte_at]
    obtain ⟨j, rfl⟩ : ∃ j, k = j + 1 := ⟨k - 1, by omega⟩
    rw [List.getElem_cons_succ]
    have := h1 _ (List.getElem_mem (show j < (Lib.decDigits u).length by rw [hsz] at h; omega))
    omega
  · obtain ⟨c, r, e, hc⟩ := h3 hu
    rw [byte_at, List.getElem_cons_succ]
    have e0 : (Lib.decDigits u)[0] = c := by simp [e]
    rw [e0]
    omega
  · rw [byte_at]
    obtain ⟨j, rfl⟩ : ∃ j, k = j + 1 := ⟨k - 1, by omega⟩
    rw [List.getElem_cons_succ]
    have hk : j < (Lib.decDigits u).length := by rw [hsz] at h; omega
    have := h1 _ (List.getElem_mem hk)
    show ((val ((Lib.decDigits u).take (j + 1)) : Nat) : Int) = ((val ((Lib.decDigits u).take j) : Nat) : Int) * 10 + _
    rw [List.take_succ_eq_append_getElem hk, val_snoc]
    omega
  · have := val_take (Lib.decDigits u) (k - 1)
    show val ((Lib.decDigits u).take (k - 1)) ≤ u
    omega
  · show val ((Lib.decDigits u).take _) = u
    rw [hsz, Nat.add_sub_cancel, List.take_of_length_le (Nat.le_refl _), h2]
end Go.Proofs.Qxb6617647aDoor
