/-
  THE WALK OF FnPartThenOpening.
-/
import Derived.Test.Qxb6616671aCast
import Derived.Test.Qxb6616671aTwo
import Derived.Test.Qxb6616671aFindJ
import Derived.Deep.QuietTactic
import Derived.BigQuiet
namespace Go.Proofs.Qxb6616671a
open Go.RowKit

set_option maxRecDepth 100000 in
set_option maxHeartbeats 4000000 in
theorem law4_main (a1 : Option Addr) (n1 c1 : Nat) (s1 : List ByteArray) (a2 : Option Addr) (n2 c2 : Nat) (z2 : List Int) (p : ByteArray) (pr : Int) (w : World) (h1 : HasStrs w a1 n1 c1 s1) (h2 : HasNums w a2 n2 c2 z2) (hp : p.size ≤ maxLen) (g1 : ¬ 65536 < n1) (g2 : ¬ 65536 < n2) (g3 : ¬ 1048576 < p.size) (g4 : ¬ 1048576 < (p.size : Int) + 8 * n2) :
    Calls Try.prog 4 #[.slice a1 n1 c1, .slice a2 n2 c2, .string p, .int .u64 pr] w fun e w' => e = .returned (.bool true) ∧ Below w.heap.size w w' := by
  have m2 : n2 ≤ 9223372036854775807 := by have := h2.le; have := h2.cap; unfold maxLen at this; omega
  have B19 := show Hid _ from bytes19_any a1 n1 c1 s1 a2 n2 c2 p pr w h1 m2 hp
  unfold maxLen at hp
  have q34 := eq34
  go_enter Try.func4, Try.ntmps4
  go_wp2_with fail
  refine Calls.mono B19.out ?_
  rintro e w' ⟨⟨r, rfl⟩, rfl⟩
  clear B19
  cases r with
  | false => go_wp2; go_ret; exact ⟨rfl, Below.refl _ _⟩
  | true =>
    go_wp2_with fail
    refine (addStrs_any _ _ _ _ _ _ h1).mono ?_
    rintro e w' ⟨⟨t1, rfl⟩, rfl⟩
    by_cases g5 : 1048576 < t1
    · go_wp2; go_ret; exact ⟨rfl, Below.refl _ _⟩
    by_cases g6 : n1 = n2
    · subst g6
      clear g4
      go_wp2_with fail
      refine (cloneStrs_any _ _ _ s1 _ h1 (by omega)).mono ?_
      rintro e w1 ⟨⟨a1', c1', rfl, h1'⟩, hb1⟩
      replace h2 := h2.below (Nat.le_refl _) hb1
      go_wp2_with fail
      refine (cloneU64_any _ _ _ z2 _ h2 (by omega)).mono ?_
      rintro e w2 ⟨⟨a2', c2', rfl, h2'⟩, hb2⟩
      replace h1' := h1'.below (Nat.le_refl _) hb2
      replace hb2 := hb1.trans (hb2.mono hb1.size)
      clear h1 h2 hb1
      go_wp2_with fail
      refine (cloneStrs_any _ _ _ s1 _ h1' (by omega)).mono ?_
      rintro e y1 ⟨⟨a3, c3, rfl, h3⟩, hb3⟩
      replace h1' := h1'.below (Nat.le_refl _) hb3
      replace h2' := h2'.below (Nat.le_refl _) hb3
      replace hb3 := hb2.trans (hb3.mono hb2.size)
      clear hb2
      go_wp2_with fail
      refine (cloneU64_any _ _ _ z2 _ h2' (by omega)).mono ?_
      rintro e y2 ⟨⟨a4, c4, rfl, h4⟩, hb4⟩
      replace h1' := h1'.below (Nat.le_refl _) hb4
      replace h2' := h2'.below (Nat.le_refl _) hb4
      replace h3 := h3.below (Nat.le_refl _) hb4
      replace hb4 := hb3.trans (hb4.mono hb3.size)
      clear hb3
      go_wp2_with fail
      refine (newCast_any none 0 0 [] _ _ _ s1 _ _ z2 _ (hasStrs_nil _) h3 h4 (by omega) (by omega)).mono ?_
      rintro e y3 ⟨⟨B1, vo1, vp1, os1, rfl, hC1, hp1, hl1⟩, hb5⟩
      clear h3 h4
      have HL1 : Hid (os1.map Opn.peer = s1 ∧ os1.map Opn.link = z2) := ⟨hp1, hl1⟩
      have hlen1 : Hid (s1.length = n1) := h1'.len
      have hlen2 : Hid (z2.length = n1) := h2'.len
      have ho1 : os1.length ≤ 1000000 := by
        have := congrArg List.length HL1.out.1
        simp [hlen1.out] at this
        omega
      clear hp1 hl1
      have hn3 : HasNums y3 a2' n1 c2' z2 := h2'.below (Nat.le_refl _) hb5
      have hs3 : HasStrs y3 a1' n1 c1' s1 := h1'.below (Nat.le_refl _) hb5
      go_wp2
      go_loop [12, 13, 14] (fun v12 v13 i => ∃ m : Nat, m ≤ n1 ∧ i = .int .i64 m ∧ ((v12 = .int .i64 (-1) ∧ Hid (NoHit z2 pr m)) ∨ ∃ t : Nat, v12 = .int .i64 t ∧ t < n1 ∧ Hid (FirstAt z2 pr t)) ∧
          ((v13 = .int .i64 (-1) ∧ Hid (NoJ s1 z2 p pr m)) ∨ ∃ t : Nat, v13 = .int .i64 t ∧ t < n1 ∧ Hid (FirstJ s1 z2 p pr t))) (fun _ _ i => n1 - (intOf i).toNat)
      case atStart => exact ⟨0, Nat.zero_le _, rfl, .inl ⟨rfl, NoHit.zero _ _⟩, .inl ⟨rfl, NoJ.zero⟩⟩
      case round =>
        obtain ⟨m, hm, rfl, hA, hJ⟩ := hrel
        by_cases hmn : m < n1
        · obtain ⟨b2, off2, rfl, hbl2, hc0⟩ := hn3.cells (by omega)
          have hS2 := hc0 m hmn
          clear hc0
          obtain ⟨b1, off1, rfl, hbl1, hc0⟩ := hs3.cells (by omega)
          have hS1 := hc0 m hmn
          clear hc0
          generalize hg2 : z2.getD m 0 = z at hS2
          generalize hg1 : s1.getD m ByteArray.empty = s at hS1
          have HG2 := show Hid _ from hg2
          have HG1 := show Hid _ from hg1
          clear hg1 hg2
          cases hq : (z == pr) with
          | false =>
            have HQ := show Hid _ from hq
            have hJm : hitJ s1 z2 p pr m = false := by unfold hitJ; rw [HG2.out, hq]; rfl
            have HJM := show Hid _ from hJm
            clear hJm
            rcases hA with ⟨rfl, hno⟩ | ⟨ta, rfl, hta, hfa⟩
            · rcases hJ with ⟨rfl, hnj⟩ | ⟨tj, rfl, htj, hfj⟩
              · go_wp2
                go_round
                case rel => exact ⟨m + 1, by omega, by go_num, .inl ⟨rfl, hno.out.succ (by rw [HG2.out]; exact HQ.out)⟩, .inl ⟨rfl, hnj.out.succ HJM.out⟩⟩
                case measure => simp [intOf]; omega
              · go_wp2
                go_round
                case rel => exact ⟨m + 1, by omega, by go_num, .inl ⟨rfl, hno.out.succ (by rw [HG2.out]; exact HQ.out)⟩, .inr ⟨tj, rfl, htj, hfj⟩⟩
                case measure => simp [intOf]; omega
            · rcases hJ with ⟨rfl, hnj⟩ | ⟨tj, rfl, htj, hfj⟩
              · go_wp2
                go_round
                case rel => exact ⟨m + 1, by omega, by go_num, .inr ⟨ta, rfl, hta, hfa⟩, .inl ⟨rfl, hnj.out.succ HJM.out⟩⟩
                case measure => simp [intOf]; omega
              · go_wp2
                go_round
                case rel => exact ⟨m + 1, by omega, by go_num, .inr ⟨ta, rfl, hta, hfa⟩, .inr ⟨tj, rfl, htj, hfj⟩⟩
                case measure => simp [intOf]; omega
          | true =>
            have HQ := show Hid _ from hq
            rcases hA with ⟨rfl, hno⟩ | ⟨ta, rfl, hta, hfa⟩
            · rcases hJ with ⟨rfl, hnj⟩ | ⟨tj, rfl, htj, hfj⟩
              · cases hk : (s.toList == p.toList) with
                | true =>
                  have HJM : Hid (hitJ s1 z2 p pr m = false) := by show _ = _; unfold hitJ isP; rw [HG2.out, HG1.out, hq, hk]; rfl
                  go_wp2
                  go_round
                  case rel => exact ⟨m + 1, by omega, by go_num, .inr ⟨m, rfl, hmn, by rw [hlen2.out]; exact hmn, by rw [HG2.out]; exact HQ.out, hno.out⟩, .inl ⟨rfl, hnj.out.succ HJM.out⟩⟩
                  case measure => simp [intOf]; omega
                | false =>
                  have HJM : Hid (hitJ s1 z2 p pr m = true) := by show _ = _; unfold hitJ isP; rw [HG2.out, HG1.out, hq, hk]; rfl
                  go_wp2
                  go_round
                  case rel => exact ⟨m + 1, by omega, by go_num, .inr ⟨m, rfl, hmn, by rw [hlen2.out]; exact hmn, by rw [HG2.out]; exact HQ.out, hno.out⟩, .inr ⟨m, rfl, hmn, by rw [hlen2.out]; exact hmn, HJM.out, hnj.out⟩⟩
                  case measure => simp [intOf]; omega
              · go_wp2
                go_round
                case rel => exact ⟨m + 1, by omega, by go_num, .inr ⟨m, rfl, hmn, by rw [hlen2.out]; exact hmn, by rw [HG2.out]; exact HQ.out, hno.out⟩, .inr ⟨tj, rfl, htj, hfj⟩⟩
                case measure => simp [intOf]; omega
            · rcases hJ with ⟨rfl, hnj⟩ | ⟨tj, rfl, htj, hfj⟩
              · cases hk : (s.toList == p.toList) with
                | true =>
                  have HJM : Hid (hitJ s1 z2 p pr m = false) := by show _ = _; unfold hitJ isP; rw [HG2.out, HG1.out, hq, hk]; rfl
                  go_wp2
                  go_round
                  case rel => exact ⟨m + 1, by omega, by go_num, .inr ⟨ta, rfl, hta, hfa⟩, .inl ⟨rfl, hnj.out.succ HJM.out⟩⟩
                  case measure => simp [intOf]; omega
                | false =>
                  have HJM : Hid (hitJ s1 z2 p pr m = true) := by show _ = _; unfold hitJ isP; rw [HG2.out, HG1.out, hq, hk]; rfl
                  go_wp2
                  go_round
                  case rel => exact ⟨m + 1, by omega, by go_num, .inr ⟨ta, rfl, hta, hfa⟩, .inr ⟨m, rfl, hmn, by rw [hlen2.out]; exact hmn, HJM.out, hnj.out⟩⟩
                  case measure => simp [intOf]; omega
              · go_wp2
                go_round
                case rel => exact ⟨m + 1, by omega, by go_num, .inr ⟨ta, rfl, hta, hfa⟩, .inr ⟨tj, rfl, htj, hfj⟩⟩
                case measure => simp [intOf]; omega
        · obtain rfl : m = n1 := by omega
          have hlo := hb5.size
          rcases hA with ⟨rfl, hno⟩ | ⟨ta, rfl, hta, hfa⟩
          · have hno' : NoHit z2 pr z2.length := by rw [hlen2.out]; exact hno.out
            rcases hJ with ⟨rfl, hnj⟩ | ⟨tj, rfl, htj, hfj⟩
            · have f1 := os_none HL1.out.2 hno'
              have fJ := osJ_none (p := p) HL1.out.1 HL1.out.2 (noJ_of_noHit hno')
              have FJ := show Hid _ from fJ
              clear fJ hno'
              go_wp2_with fail
              refine (zzopening_any pr _ hC1 ho1).mono ?_
              rintro e y4 ⟨rfl, rfl⟩
              rw [f1]
              simp only [ptrTo]
              clear f1
              go_wp2_with fail
              refine (part_any p _ hC1 hlo (by simp) ho1).mono ?_
              rintro e y5 ⟨rfl, ⟨vo', vp', hC2⟩, hbP⟩
              go_wp2_with fail
              refine (zzopening_any pr _ hC2 (Nat.le_trans (List.length_filter_le _ _) ho1)).mono ?_
              rintro e y6 ⟨rfl, rfl⟩
              rw [FJ.out]
              simp only [ptrTo]
              go_wp2
              go_ret
              exact ⟨rfl, hb4.trans ((hb5.trans hbP).mono hb4.size)⟩
            · exact absurd hfj.out.2.1 (by rw [noJ_of_noHit hno' tj (by rw [hlen2.out]; exact htj)]; decide)
          · obtain ⟨⟨bk1, pe1, ln1⟩, hot1, hpe1, hln1, hfi1⟩ := os_first HL1.out.1 HL1.out.2 hfa.out
            obtain ⟨b1, off1, rfl, hbl1, hc0⟩ := hs3.cells (by omega)
            have hS1 := hc0 ta hta
            clear hc0
            simp only at hpe1 hln1
            rw [← hpe1] at hS1
            subst hln1
            have hO1 := (hC1.each _ (List.mem_of_getElem? hot1)).2
            go_wp2_with fail
            refine (zzopening_any ln1 _ hC1 ho1).mono ?_
            rintro e y4 ⟨rfl, rfl⟩
            rw [hfi1]
            simp only [ptrTo]
            have QA : Hid (∀ n, Calls Try.prog 16 #[.pointer (some ⟨B1, 0, none⟩), .int .i64 ta] (y4.drewN n) fun e w' => e = .returned (.pointer (some ⟨bk1, 0, none⟩)) ∧ w' = y4.drewN n) := fun n => at_any ta ⟨bk1, pe1, ln1⟩ (y4.drewN n) (hC1.same fun _ _ => rfl) hot1
            have QP : Hid (∀ n, Calls Try.prog 17 #[.pointer (some ⟨bk1, 0, none⟩)] (y4.drewN n) fun e w' => e = .returned (.string pe1) ∧ w' = y4.drewN n) := fun n => peer_any ⟨bk1, pe1, ln1⟩ (y4.drewN n) (hO1.same rfl)
            have QT : Hid (∀ n, Calls Try.prog 12 #[.pointer (some ⟨B1, 0, none⟩), .string p] (y4.drewN n) fun e w' => e = .returned (.tuple #[]) ∧ (∃ vo' vp', Cast w' y2.heap.size B1 vo' vp' ([].filter (keepS p)) (os1.filter (keepO p))) ∧ Below y2.heap.size (y4.drewN n) w') := fun n => part_any p (y4.drewN n) (hC1.same fun _ _ => rfl) hlo (by simp) ho1
            clear hot1 hfi1 hO1 hpe1
            have htz : ¬ (ta : Int) < 0 := by omega
            have htz2 : (0 : Int) ≤ (ta : Int) := by omega
            have htq2 : (ta : Int) < (m : Int) := by omega
            rcases hJ with ⟨rfl, hnj⟩ | ⟨tj, rfl, htj, hfj⟩
            · have fJ := osJ_none (p := p) HL1.out.1 HL1.out.2 (pr := ln1) (by rw [hlen2.out]; exact hnj.out)
              have FJ := show Hid _ from fJ
              clear fJ
              go_wp2_with fail
              go_quiet (first | (go_at_call 16; exact Calls.quiet_of_same (QA.out _)) | (go_at_call 17; exact Calls.quiet_of_same (QP.out _)))
              go_wp2_with fail
              refine Calls.mono (QT.out _) ?_
              rintro e y5 ⟨rfl, ⟨vo', vp', hC2⟩, hbP⟩
              go_wp2_with fail
              refine (zzopening_any ln1 _ hC2 (Nat.le_trans (List.length_filter_le _ _) ho1)).mono ?_
              rintro e y6 ⟨rfl, rfl⟩
              rw [FJ.out]
              simp only [ptrTo]
              go_wp2
              go_ret
              exact ⟨rfl, hb4.trans ((hb5.trans ⟨hbP.os, hbP.tape, hbP.output, hbP.size, hbP.block⟩).mono hb4.size)⟩
            · obtain ⟨⟨bkj, pej, lnj⟩, hotj, hpej, hlnj, hkj, hfij⟩ := osJ_first HL1.out.1 HL1.out.2 hfj.out
              simp only at hpej hlnj
              subst hlnj
              have FJ := show Hid _ from hfij
              have hmem : (⟨bkj, pej, lnj⟩ : Opn) ∈ os1.filter (keepO p) := List.mem_filter.2 ⟨List.mem_of_getElem? hotj, hkj⟩
              have HMEM := show Hid _ from hmem
              have QJ : Hid (∀ n, Calls Try.prog 16 #[.pointer (some ⟨B1, 0, none⟩), .int .i64 tj] (y4.drewN n) fun e w' => e = .returned (.pointer (some ⟨bkj, 0, none⟩)) ∧ w' = y4.drewN n) := fun n => at_any tj ⟨bkj, pej, lnj⟩ (y4.drewN n) (hC1.same fun _ _ => rfl) hotj
              have HPEJ := show Hid _ from hpej
              clear hfij hmem hotj hkj hpej
              have hjz : ¬ (tj : Int) < 0 := by omega
              have hjz2 : (0 : Int) ≤ (tj : Int) := by omega
              have hjq2 : (tj : Int) < (m : Int) := by omega
              go_wp2_with fail
              go_quiet (first | (go_at_call 16; exact Calls.quiet_of_same (QA.out _)) | (go_at_call 17; exact Calls.quiet_of_same (QP.out _)))
              go_wp2_with fail
              refine Calls.mono (QJ.out _) ?_
              rintro e y5 ⟨rfl, rfl⟩
              go_wp2_with fail
              refine Calls.mono (QT.out _) ?_
              rintro e y5 ⟨rfl, ⟨vo', vp', hC2⟩, hbP⟩
              have hbN := hb5.trans (show Below y2.heap.size y4 y5 from ⟨hbP.os, hbP.tape, hbP.output, hbP.size, hbP.block⟩)
              go_wp2_with fail
              refine (zzopening_any lnj _ hC2 (Nat.le_trans (List.length_filter_le _ _) ho1)).mono ?_
              rintro e y6 ⟨rfl, rfl⟩
              rw [FJ.out]
              simp only [ptrTo]
              have hOj := (hC2.each _ HMEM.out).2
              have hsN := h1'.below (Nat.le_refl _) hbN
              obtain ⟨b1', off1', ha1, hbl1', hc0⟩ := hsN.cells (by omega)
              obtain ⟨rfl, rfl⟩ : b1 = b1' ∧ off1 = off1' := by simpa using ha1
              have hSj := hc0 tj htj
              rw [← HPEJ.out] at hSj
              have QP2 : Hid (∀ n, Calls Try.prog 17 #[.pointer (some ⟨bkj, 0, none⟩)] (y6.drewN n) fun e w' => e = .returned (.string pej) ∧ w' = y6.drewN n) := fun n => peer_any ⟨bkj, pej, lnj⟩ (y6.drewN n) (hOj.same rfl)
              have QL2 : Hid (∀ n, Calls Try.prog 18 #[.pointer (some ⟨bkj, 0, none⟩)] (y6.drewN n) fun e w' => e = .returned (.int .u64 lnj) ∧ w' = y6.drewN n) := fun n => link_any ⟨bkj, pej, lnj⟩ (y6.drewN n) (hOj.same rfl)
              clear hc0 ha1 hsN hOj hC2 hbP QT QJ QA QP hS1
              have HBN := show Hid _ from hbN
              clear hbN
              go_wp2_with fail
              go_quiet (first | (go_at_call 17; exact Calls.quiet_of_same (QP2.out _)) | (go_at_call 18; exact Calls.quiet_of_same (QL2.out _)))
              go_wp2
              go_ret
              have hbN := HBN.out
              exact ⟨rfl, hb4.trans (Below.mono ⟨hbN.os, hbN.tape, hbN.output, hbN.size, hbN.block⟩ hb4.size)⟩
    · have g6' : ((n1 : Int) != n2) = true := by simp; omega
      go_wp2; go_ret; exact ⟨rfl, Below.refl _ _⟩
end Go.Proofs.Qxb6616671a
