/-
  FnPartTwiceAnyOrder's OWN CALLEES: zzBytes_.., ZZoutTos, zzStrsEqual.
-/
import Derived.Test.Qxb6616671aDel26
import Derived.Test.Qxb6616671aNums
namespace Go.Proofs.Qxb6616671a
open Go.RowKit

set_option maxHeartbeats 2000000 in
theorem bytes7_any (a1 : Option Addr) (n1 c1 : Nat) (s1 : List ByteArray) (a2 : Option Addr) (n2 c2 : Nat) (s2 : List ByteArray) (a3 : Option Addr) (n3 c3 : Nat) (p q : ByteArray) (w : World) (h1 : HasStrs w a1 n1 c1 s1) (h2 : HasStrs w a2 n2 c2 s2) (m3 : n3 ≤ 9223372036854775807) (hp : p.size ≤ maxLen) (hq : q.size ≤ maxLen) :
    Calls Try.prog 7 #[.slice a1 n1 c1, .slice a2 n2 c2, .slice a3 n3 c3, .string p, .string q] w fun e w' => RetB e ∧ w' = w := by
  have m1 : n1 ≤ 9223372036854775807 := by have := h1.le; have := h1.cap; unfold maxLen at this; omega
  have m2 : n2 ≤ 9223372036854775807 := by have := h2.le; have := h2.cap; unfold maxLen at this; omega
  unfold maxLen at hp hq
  by_cases g1 : 1048576 < n1
  · go_enter Try.func7, Try.ntmps7
    go_wp2
    go_ret
    exact ⟨⟨_, rfl⟩, rfl⟩
  · go_enter Try.func7, Try.ntmps7
    go_wp2
    go_loop [11, 12] (fun t i => ∃ (k : Nat) (r : Int), k ≤ n1 ∧ i = .int .i64 k ∧ t = .int .i64 r ∧ 0 ≤ r ∧ r ≤ 1048576) (fun _ i => n1 - (intOf i).toNat)
    case atStart => exact ⟨0, _, Nat.zero_le _, rfl, rfl, by omega, by omega⟩
    case round =>
      obtain ⟨k, r, hk, rfl, rfl, hr0, hr1⟩ := hrel
      by_cases hlt : k < n1
      · obtain ⟨b, off, rfl, hbl, hc0⟩ := h1.cells (by omega)
        have hcell := hc0 k hlt
        clear hc0
        generalize s1.getD k ByteArray.empty = s at hcell
        go_wp2
        · go_ret
          exact ⟨⟨_, rfl⟩, rfl⟩
        · go_ret
          exact ⟨⟨_, rfl⟩, rfl⟩
        · go_round
          case rel => exact ⟨k + 1, _, by omega, by go_num, rfl, by omega, by omega⟩
          case measure => simp [intOf]; omega
      · go_wp2
        · go_ret
          exact ⟨⟨_, rfl⟩, rfl⟩
        · go_ret
          exact ⟨⟨_, rfl⟩, rfl⟩
        · go_loop [11, 13] (fun t i => ∃ (k : Nat) (r : Int), k ≤ n2 ∧ i = .int .i64 k ∧ t = .int .i64 r ∧ 0 ≤ r ∧ r ≤ 1048576) (fun _ i => n2 - (intOf i).toNat)
          case atStart => exact ⟨0, _, Nat.zero_le _, rfl, rfl, by omega, by omega⟩
          case round =>
            obtain ⟨k2, r2, hk2, rfl, rfl, hr20, hr21⟩ := hrel
            by_cases hlt2 : k2 < n2
            · obtain ⟨b, off, rfl, hbl, hc0⟩ := h2.cells (by omega)
              have hcell := hc0 k2 hlt2
              clear hc0
              generalize s2.getD k2 ByteArray.empty = s at hcell
              go_wp2
              · go_ret
                exact ⟨⟨_, rfl⟩, rfl⟩
              · go_ret
                exact ⟨⟨_, rfl⟩, rfl⟩
              · go_round
                case rel => exact ⟨k2 + 1, _, by omega, by go_num, rfl, by omega, by omega⟩
                case measure => simp [intOf]; omega
            · go_wp2
              all_goals
                go_ret
                exact ⟨⟨_, rfl⟩, rfl⟩

/-- The out-links' names, cell by cell. -/
theorem Cast.oshape {w : World} {lo B : Nat} {vo vp : Value} {outs : List ByteArray} {os : List Opn} (h : Cast w lo B vo vp outs os) :
    ∃ a cap, vo = .slice a outs.length cap ∧ outs.length ≤ cap ∧ ∀ i s, outs[i]? = some s → ∃ g, a = some ⟨g, 0, none⟩ ∧ w.cell? ⟨g, i * 4, none⟩ = some (.string s) := by
  rcases h.orow.2 with ⟨rfl, h0⟩ | ⟨g, cap, cur, rfl, hg, hh, hnc, hcm, hcs, htake⟩
  · refine ⟨none, 0, by rw [h0], by omega, fun i o hi => ?_⟩
    have := (List.getElem?_eq_some_iff.1 hi).1
    omega
  · refine ⟨_, cap, rfl, hnc, fun i s hi => ⟨g, rfl, ?_⟩⟩
    have := h.orow.cells (g := g) rfl (i * 4) (.string s) (flat_at outs i s hi).1
    rw [Addr.add_lit, Nat.zero_add] at this
    exact this

theorem hasStrs_own {w : World} {lo : Nat} {v : Value} {ss : List ByteArray} (h : w.ownsRow lo 9 1 v ss.length (ss.map Value.string)) (hs : ∀ s ∈ ss, s.size ≤ maxLen) : ∃ a c, v = .slice a ss.length c ∧ HasStrs w a ss.length c ss := by
  rcases h.2 with ⟨rfl, h0⟩ | ⟨g, cap, cur, rfl, hg, hh, hnc, hcm, hcs, htake⟩
  · refine ⟨none, 0, by rw [h0], rfl, by omega, Nat.zero_le _, fun _ => ⟨h0, rfl⟩, hs, fun hn => by omega⟩
  · refine ⟨_, _, rfl, rfl, hnc, hcm, by simp, hs, fun hn => ⟨g, 0, rfl, (Array.getElem?_eq_some_iff.1 hh).1, fun i hi => ?_⟩⟩
    have := h.cells (g := g) rfl i (.string (ss.getD i ByteArray.empty)) (by simp [List.getD_eq_getElem?_getD, hi])
    rw [Addr.add_lit] at this
    exact this

set_option maxHeartbeats 1000000 in
theorem outTos_any (w : World) {lo B : Nat} {vo vp : Value} {outs : List ByteArray} {os : List Opn} (h : Cast w lo B vo vp outs os) (hsm : outs.length ≤ 1000000) (hsz : ∀ s ∈ outs, s.size ≤ maxLen) :
    Calls Try.prog 13 #[.pointer (some ⟨B, 0, none⟩)] w fun e w' => (∃ a c, e = .returned (.slice a outs.length c) ∧ HasStrs w' a outs.length c outs) ∧ Below w.heap.size w w' := by
  have hV0 := h.cell3
  have hBl := h.lt
  obtain ⟨a, cap, rfl, hcap, hcells⟩ := h.oshape
  have HC := show Hid _ from hcells
  have HV := show Hid _ from hV0
  clear hcells hV0
  obtain ⟨i9, hi9, hz9, hs9, hb9⟩ := info_parts Try.info9
  go_enter Try.func13, Try.ntmps13
  go_wp2
  go_loopw [3, 4] (fun v i wr => ∃ k : Nat, k ≤ outs.length ∧ i = .int .i64 k ∧ Hid (wr.ownsRow w.heap.size 9 1 v k ((outs.take k).map Value.string)) ∧ Hid (Below w.heap.size w wr)) (fun _ i _ => outs.length - (intOf i).toNat)
  case atStart => exact ⟨0, Nat.zero_le _, rfl, World.ownsRow_nil _ _ _ _, Below.refl _ _⟩
  case round =>
    obtain ⟨k, hk, rfl, hown, hB⟩ := hrel
    have hV := cell_later hB.out HV.out
    by_cases hlt : k < outs.length
    · obtain ⟨s, hs⟩ : ∃ s, outs[k]? = some s := ⟨_, List.getElem?_eq_getElem hlt⟩
      obtain ⟨g, rfl, hcell0⟩ := HC.out k s hs
      have hcell := cell_later hB.out hcell0
      have HS := show Hid _ from hs
      clear hs hcell0
      have hsz1 := hB.out.size
      have hltz : (k : Int) < (outs.length : Int) := by omega
      have h63 : k + 1 ≤ maxLen := by unfold maxLen; omega
      have hby : (k + 1) * 16 ≤ 140737488355328 := by omega
      go_wp2_with (at_builtin; refine wpList_append_lies _ rfl (.tmp 14) (.tmp 23) 22 rfl w.heap.size 9 i9 (.string ByteArray.empty) 1 16 Try.underlying22 hi9 hz9 hs9 hb9 rfl (by omega) _ k _ rfl (hown.out.alloc _) ⟨wr.heap.size, 0, none⟩ 1 1 [.string s] rfl rfl (cell_one_new _ _ _) (by simp [Value.oneCell']) (by omega) h63 hby (by simp; omega) (wr.heap.size + 1) (by simp) ?_; intro gg cap' x1 hx1 hgx1 hat hlt2)
      have hb1 : Below w.heap.size w x1 := (hB.out.alloc hsz1 _).grown hgx1 (by simp; omega) (fun j e => (hown.out.lt j e).1)
      have HB1 := show Hid _ from hb1
      have HX1 := show Hid _ from hx1
      clear hb1 hx1 hgx1 hat hlt2
      go_roundw
      case rel =>
        refine ⟨k + 1, by omega, by go_num, ?_, HB1.out⟩
        have e : outs.take (k + 1) = outs.take k ++ [s] := by
          rw [List.take_succ_eq_append_getElem hlt, (List.getElem?_eq_some_iff.1 HS.out).2]
        rw [e, List.map_append]
        exact HX1.out
      case measure => simp [intOf]; omega
    · have : k = outs.length := by omega
      subst this
      have hown' := hown.out
      rw [List.take_of_length_le (Nat.le_refl _)] at hown'
      obtain ⟨a', c', rfl, hS⟩ := hasStrs_own hown' hsz
      have HS := show Hid _ from hS
      clear hown' hown hS
      go_wp2
      go_ret
      exact ⟨⟨_, _, rfl, HS.out⟩, hB.out⟩

set_option maxHeartbeats 1000000 in
theorem strsEqual_any (a1 : Option Addr) (n c1 : Nat) (a2 : Option Addr) (c2 : Nat) (ss : List ByteArray) (w : World) (h1 : HasStrs w a1 n c1 ss) (h2 : HasStrs w a2 n c2 ss) (hsm : n ≤ 1000000) :
    Calls Try.prog 14 #[.slice a1 n c1, .slice a2 n c2] w fun e w' => e = .returned (.bool true) ∧ Below w.heap.size w w' := by
  go_enter Try.func14, Try.ntmps14
  go_wp2
  go_loopw [5] (fun i wr => ∃ k q : Nat, k ≤ n ∧ i = .int .i64 k ∧ wr = w.drewN q) (fun i _ => n - (intOf i).toNat)
  case atStart => exact ⟨0, 0, Nat.zero_le _, rfl, rfl⟩
  case round =>
    obtain ⟨k, q, hk, rfl, rfl⟩ := hrel
    by_cases hlt : k < n
    · obtain ⟨b1, o1, rfl, _, hc1⟩ := h1.cells (by omega)
      obtain ⟨b2, o2, rfl, _, hc2⟩ := h2.cells (by omega)
      have k1 := hc1 k hlt
      have k2 := hc2 k hlt
      clear hc1 hc2
      generalize ss.getD k ByteArray.empty = s at k1 k2
      have hltz : (k : Int) < (n : Int) := by omega
      have hgez : (0 : Int) ≤ (k : Int) := by omega
      go_wp2_with fail
      go_quiet (fail)
      go_wp2
      go_roundw
      case rel => exact ⟨k + 1, _, by omega, by go_num, rfl⟩
      case measure => simp [intOf]; omega
    · go_wp2
      go_ret
      exact ⟨rfl, ⟨rfl, rfl, rfl, Nat.le_refl _, fun _ _ => rfl⟩⟩
end Go.Proofs.Qxb6616671a
