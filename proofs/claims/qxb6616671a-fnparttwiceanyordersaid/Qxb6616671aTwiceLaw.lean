/-
  THE WALK OF FnPartTwiceAnyOrder.
-/
import Derived.Test.Qxb6616671aCast
import Derived.Test.Qxb6616671aTwiceKit
import Derived.Test.Qxb6616671aTwicePlain
import Derived.Deep.QuietTactic
import Derived.BigQuiet
namespace Go.Proofs.Qxb6616671a
open Go.RowKit

/-- The three slices that the law goes on with. -/
structure Trio (w : World) (a0 : Option Addr) (n0 c0 : Nat) (s0 : List ByteArray) (a1 : Option Addr) (n1 c1 : Nat) (s1 : List ByteArray) (a2 : Option Addr) (c2 : Nat) (z2 : List Int) : Prop where
  o : HasStrs w a0 n0 c0 s0
  p : HasStrs w a1 n1 c1 s1
  l : HasNums w a2 n1 c2 z2
theorem Trio.below {w w' : World} {a0 : Option Addr} {n0 c0 : Nat} {s0 : List ByteArray} {a1 : Option Addr} {n1 c1 : Nat} {s1 : List ByteArray} {a2 : Option Addr} {c2 : Nat} {z2 : List Int} (h : Trio w a0 n0 c0 s0 a1 n1 c1 s1 a2 c2 z2) (hb : Below w.heap.size w w') : Trio w' a0 n0 c0 s0 a1 n1 c1 s1 a2 c2 z2 :=
  ⟨h.o.below (Nat.le_refl _) hb, h.p.below (Nat.le_refl _) hb, h.l.below (Nat.le_refl _) hb⟩

set_option maxRecDepth 100000 in
set_option maxHeartbeats 8000000 in
theorem law3_main (a0 : Option Addr) (n0 c0 : Nat) (s0 : List ByteArray) (a1 : Option Addr) (n1 c1 : Nat) (s1 : List ByteArray) (a2 : Option Addr) (n2 c2 : Nat) (z2 : List Int) (p q : ByteArray) (w : World) (h0 : HasStrs w a0 n0 c0 s0) (h1 : HasStrs w a1 n1 c1 s1) (h2 : HasNums w a2 n2 c2 z2) (hp : p.size ≤ maxLen) (hq : q.size ≤ maxLen)
    (g0 : ¬ 65536 < n0) (g1 : ¬ 65536 < n1) (g2 : ¬ 65536 < n2) (g3 : ¬ 1048576 < p.size) (g4 : ¬ 1048576 < q.size) (g5 : ¬ 1048576 < (p.size : Int) + q.size + 8 * n2) :
    Calls Try.prog 3 #[.slice a0 n0 c0, .slice a1 n1 c1, .slice a2 n2 c2, .string p, .string q] w fun e w' => e = .returned (.bool true) ∧ Below w.heap.size w w' := by
  have m2 : n2 ≤ 9223372036854775807 := by have := h2.le; have := h2.cap; unfold maxLen at this; omega
  have B7 := show Hid _ from bytes7_any a0 n0 c0 s0 a1 n1 c1 s1 a2 n2 c2 p q w h0 h1 m2 hp hq
  unfold maxLen at hp hq
  go_enter Try.func3, Try.ntmps3
  go_wp2_with fail
  refine Calls.mono B7.out ?_
  rintro e w' ⟨⟨r, rfl⟩, rfl⟩
  clear B7
  cases r with
  | false => go_wp2; go_ret; exact ⟨rfl, Below.refl _ _⟩
  | true =>
    go_wp2_with fail
    refine (addStrs_any _ _ _ _ _ _ h0).mono ?_
    rintro e w' ⟨⟨t1, rfl⟩, rfl⟩
    by_cases g6 : 1048576 < t1
    · go_wp2; go_ret; exact ⟨rfl, Below.refl _ _⟩
    go_wp2_with fail
    refine (addStrs_any _ _ _ _ _ _ h1).mono ?_
    rintro e w' ⟨⟨t2, rfl⟩, rfl⟩
    by_cases g7 : 1048576 < t2
    · go_wp2; go_ret; exact ⟨rfl, Below.refl _ _⟩
    by_cases g8 : n1 = n2
    · subst g8
      clear g5
      go_wp2_with fail
      refine (cloneStrs_any _ _ _ s0 _ h0 (by omega)).mono ?_
      rintro e w1 ⟨⟨b0, d0, rfl, k0⟩, hb1⟩
      replace h1 := h1.below (Nat.le_refl _) hb1
      replace h2 := h2.below (Nat.le_refl _) hb1
      go_wp2_with fail
      refine (cloneStrs_any _ _ _ s1 _ h1 (by omega)).mono ?_
      rintro e w2 ⟨⟨b1, d1, rfl, k1⟩, hb2⟩
      replace h2 := h2.below (Nat.le_refl _) hb2
      replace k0 := k0.below (Nat.le_refl _) hb2
      replace hb2 := hb1.trans (hb2.mono hb1.size)
      go_wp2_with fail
      refine (cloneU64_any _ _ _ z2 _ h2 (by omega)).mono ?_
      rintro e w3 ⟨⟨b2, d2, rfl, k2⟩, hb3⟩
      replace k0 := k0.below (Nat.le_refl _) hb3
      replace k1 := k1.below (Nat.le_refl _) hb3
      replace hb3 := hb2.trans (hb3.mono hb2.size)
      have T : Trio w3 b0 n0 d0 s0 b1 n1 d1 s1 b2 d2 z2 := ⟨k0, k1, k2⟩
      clear h0 h1 h2 hb1 hb2 k0 k1 k2
      have hlen0 : Hid (s0.length = n0) := T.o.len
      have hlen1 : Hid (s1.length = n1) := T.p.len
      have hlen2 : Hid (z2.length = n1) := T.l.len
      have hsm0 : Hid (∀ s ∈ s0, s.size ≤ maxLen) := T.o.small
      -- the first broadcaster
      go_wp2_with fail
      refine (cloneStrs_any _ _ _ s0 _ T.o (by omega)).mono ?_
      rintro e y1 ⟨⟨e0, f0, rfl, k0⟩, hc1⟩
      replace T := T.below hc1
      replace hb3 := hb3.trans (hc1.mono hb3.size)
      go_wp2_with fail
      refine (cloneStrs_any _ _ _ s1 _ T.p (by omega)).mono ?_
      rintro e y2 ⟨⟨e1, f1, rfl, k1⟩, hc2⟩
      replace T := T.below hc2
      replace k0 := k0.below (Nat.le_refl _) hc2
      replace hb3 := hb3.trans (hc2.mono hb3.size)
      go_wp2_with fail
      refine (cloneU64_any _ _ _ z2 _ T.l (by omega)).mono ?_
      rintro e y3 ⟨⟨e2, f2, rfl, k2⟩, hc3⟩
      replace T := T.below hc3
      replace k0 := k0.below (Nat.le_refl _) hc3
      replace k1 := k1.below (Nat.le_refl _) hc3
      replace hb3 := hb3.trans (hc3.mono hb3.size)
      go_wp2_with fail
      refine (newCast_any _ _ _ s0 _ _ _ s1 _ _ z2 _ k0 k1 k2 (by omega) (by omega)).mono ?_
      rintro e y4 ⟨⟨B1, vo1, vp1, os1, rfl, hC1, hp1, hl1⟩, hd4⟩
      clear k0 k1 k2 hc1 hc2 hc3
      have HL1 : Hid (os1.map Opn.peer = s1 ∧ os1.map Opn.link = z2) := ⟨hp1, hl1⟩
      have ho1 : os1.length ≤ 1000000 := by
        have := congrArg List.length HL1.out.1
        simp [hlen1.out] at this
        omega
      have hs0l : s0.length ≤ 1000000 := by rw [hlen0.out]; omega
      clear hp1 hl1
      go_wp2_with fail
      refine (part_any p _ hC1 hd4.size hs0l ho1).mono ?_
      rintro e y5 ⟨rfl, ⟨vo2, vp2, hC2⟩, hd5⟩
      replace hd5 := hd4.trans hd5
      clear hC1 hd4
      go_wp2_with fail
      refine (part_any q _ hC2 hd5.size (Nat.le_trans (List.length_filter_le _ _) hs0l) (Nat.le_trans (List.length_filter_le _ _) ho1)).mono ?_
      rintro e y6 ⟨rfl, ⟨vo3, vp3, hC3⟩, hd6⟩
      replace hd6 := hd5.trans hd6
      rw [outs_twice, ops_twice] at hC3
      clear hC2 hd5
      replace T := T.below hd6
      replace hb3 := hb3.trans (hd6.mono hb3.size)
      clear hd6
      -- the second broadcaster
      go_wp2_with fail
      refine (cloneStrs_any _ _ _ s0 _ T.o (by omega)).mono ?_
      rintro e y7 ⟨⟨e0', f0', rfl, k0⟩, hc1⟩
      replace T := T.below hc1
      replace hC3 := hC3.below (Nat.le_refl _) hc1
      replace hb3 := hb3.trans (hc1.mono hb3.size)
      go_wp2_with fail
      refine (cloneStrs_any _ _ _ s1 _ T.p (by omega)).mono ?_
      rintro e y8 ⟨⟨e1', f1', rfl, k1⟩, hc2⟩
      replace T := T.below hc2
      replace hC3 := hC3.below (Nat.le_refl _) hc2
      replace k0 := k0.below (Nat.le_refl _) hc2
      replace hb3 := hb3.trans (hc2.mono hb3.size)
      go_wp2_with fail
      refine (cloneU64_any _ _ _ z2 _ T.l (by omega)).mono ?_
      rintro e y9 ⟨⟨e2', f2', rfl, k2⟩, hc3⟩
      replace T := T.below hc3
      replace hC3 := hC3.below (Nat.le_refl _) hc3
      replace k0 := k0.below (Nat.le_refl _) hc3
      replace k1 := k1.below (Nat.le_refl _) hc3
      replace hb3 := hb3.trans (hc3.mono hb3.size)
      go_wp2_with fail
      refine (newCast_any _ _ _ s0 _ _ _ s1 _ _ z2 _ k0 k1 k2 (by omega) (by omega)).mono ?_
      rintro e z4 ⟨⟨B2, vo4, vp4, os2, rfl, hC4, hp2, hl2⟩, hd4⟩
      clear k0 k1 k2 hc1 hc2 hc3
      have HL2 : Hid (os2.map Opn.peer = s1 ∧ os2.map Opn.link = z2) := ⟨hp2, hl2⟩
      have ho2 : os2.length ≤ 1000000 := by
        have := congrArg List.length HL2.out.1
        simp [hlen1.out] at this
        omega
      clear hp2 hl2
      go_wp2_with fail
      refine (part_any q _ hC4 hd4.size hs0l ho2).mono ?_
      rintro e z5 ⟨rfl, ⟨vo5, vp5, hC5⟩, hd5⟩
      replace hd5 := hd4.trans hd5
      clear hC4 hd4
      go_wp2_with fail
      refine (part_any p _ hC5 hd5.size (Nat.le_trans (List.length_filter_le _ _) hs0l) (Nat.le_trans (List.length_filter_le _ _) ho2)).mono ?_
      rintro e z6 ⟨rfl, ⟨vo6, vp6, hC6⟩, hd6⟩
      replace hd6 := hd5.trans hd6
      rw [outs_twice', ops_twice'] at hC6
      clear hC5 hd5
      replace T := T.below hd6
      replace hC3 := hC3.below (Nat.le_refl _) hd6
      replace hb3 := hb3.trans (hd6.mono hb3.size)
      clear hd6
      -- the names
      have hfl : (s0.filter (keep2 p q)).length ≤ 1000000 := Nat.le_trans (List.length_filter_le _ _) hs0l
      have hfs : ∀ s ∈ s0.filter (keep2 p q), s.size ≤ maxLen := fun s hs => hsm0.out s (List.mem_filter.1 hs).1
      go_wp2_with fail
      refine (outTos_any _ hC3 hfl hfs).mono ?_
      rintro e z7 ⟨⟨m1, r1, rfl, N1⟩, hd7⟩
      replace T := T.below hd7
      replace hC3 := hC3.below (Nat.le_refl _) hd7
      replace hC6 := hC6.below (Nat.le_refl _) hd7
      replace hb3 := hb3.trans (hd7.mono hb3.size)
      clear hd7
      go_wp2_with fail
      refine (outTos_any _ hC6 hfl hfs).mono ?_
      rintro e z8 ⟨⟨m2', r2, rfl, N2⟩, hd8⟩
      replace T := T.below hd8
      replace hC3 := hC3.below (Nat.le_refl _) hd8
      replace hC6 := hC6.below (Nat.le_refl _) hd8
      replace N1 := N1.below (Nat.le_refl _) hd8
      replace hb3 := hb3.trans (hd8.mono hb3.size)
      clear hd8 hfs
      go_wp2_with fail
      refine (strsEqual_any _ _ _ _ _ _ _ N1 N2 hfl).mono ?_
      rintro e z9 ⟨rfl, hd9⟩
      replace T := T.below hd9
      replace hC3 := hC3.below (Nat.le_refl _) hd9
      replace hC6 := hC6.below (Nat.le_refl _) hd9
      replace N1 := N1.below (Nat.le_refl _) hd9
      replace hb3 := hb3.trans (hd9.mono hb3.size)
      clear hd9 N2
      go_wp2
      clear hfl
      generalize hF : s0.filter (keep2 p q) = F at *
      have HF := show Hid _ from hF
      clear hF
      have hFle : F.length ≤ n0 := by rw [← HF.out, ← hlen0.out]; exact List.length_filter_le _ _
      go_loop [16, 17] (fun v i => ∃ m : Nat, m ≤ n0 ∧ i = .int .i64 m ∧ v = .int .i64 (kept p q s0 m)) (fun _ i => n0 - (intOf i).toNat)
      case atStart => exact ⟨0, Nat.zero_le _, rfl, rfl⟩
      case round =>
        obtain ⟨m, hm, rfl, rfl⟩ := hrel
        have hkl := kept_le p q s0 m
        by_cases hmn : m < n0
        · obtain ⟨bk, off, rfl, _, hc0⟩ := T.o.cells (by omega)
          have hS := hc0 m hmn
          clear hc0
          have hsm : s0[m]? = some (s0.getD m ByteArray.empty) := by simp [List.getD_eq_getElem?_getD, hlen0.out, hmn]
          generalize s0.getD m ByteArray.empty = s at hS hsm
          have HSM := show Hid _ from hsm
          clear hsm
          generalize hkk : kept p q s0 m = kk at *
          have HKK := show Hid _ from hkk
          clear hkk
          cases e1 : (s.toList == p.toList) with
          | true =>
            have HE1 := show Hid _ from e1
            go_wp2
            go_round
            case rel => exact ⟨m + 1, by omega, by go_num, by rw [kept_no HSM.out (by unfold keep2 isP; rw [HE1.out]; rfl), HKK.out]⟩
            case measure => simp [intOf]; omega
          | false =>
            have HE1 := show Hid _ from e1
            cases e2 : (s.toList == q.toList) with
            | true =>
              have HE2 := show Hid _ from e2
              go_wp2
              go_round
              case rel => exact ⟨m + 1, by omega, by go_num, by rw [kept_no HSM.out (by unfold keep2 isP; rw [HE1.out, HE2.out]; rfl), HKK.out]⟩
              case measure => simp [intOf]; omega
            | false =>
              have HE2 := show Hid _ from e2
              go_wp2
              go_round
              case rel => exact ⟨m + 1, by omega, by go_num, by rw [kept_yes HSM.out (by unfold keep2 isP; rw [HE1.out, HE2.out]; rfl), HKK.out]; go_num⟩
              case measure => simp [intOf]; omega
        · obtain rfl : m = n0 := by omega
          have hke : kept p q s0 m = F.length := by rw [← HF.out, ← kept_all, hlen0.out]
          rw [hke]
          clear hke hkl
          have hL0 : Lies F s0 0 0 := by rw [← HF.out]; exact Lies.start _ _
          have HL0 := show Hid _ from hL0
          clear hL0
          go_wp2
          go_loopw [18, 19] (fun v18 v19 wr => ∃ i j nq : Nat, i ≤ F.length ∧ j ≤ m ∧ v19 = .int .i64 i ∧ v18 = .int .i64 j ∧ Hid (Lies F s0 i j) ∧ wr = z9.drewN nq) (fun _ v19 _ => F.length - (intOf v19).toNat)
          case atStart => exact ⟨0, 0, 0, Nat.zero_le _, Nat.zero_le _, rfl, rfl, HL0.out, rfl⟩
          case round =>
            obtain ⟨i, j, nq, hi, hj, rfl, rfl, hLi, rfl⟩ := hrel
            by_cases hlt : i < F.length
            · obtain ⟨mb, mo, rfl, _, hc0⟩ := N1.cells (by omega)
              have hX := hc0 i hlt
              clear hc0
              have hxi : F[i]? = some (F.getD i ByteArray.empty) := by simp [List.getD_eq_getElem?_getD, hlt]
              generalize F.getD i ByteArray.empty = x at hX hxi
              have hxk : keep2 p q x = true := by
                have hmem := List.mem_of_getElem? hxi
                rw [← HF.out] at hmem
                exact (List.mem_filter.1 hmem).2
              have x1 : (x.toList == p.toList) = false := by
                unfold keep2 isP at hxk
                rw [Bool.and_eq_true] at hxk
                simpa using hxk.1
              have x2 : (x.toList == q.toList) = false := by
                unfold keep2 isP at hxk
                rw [Bool.and_eq_true] at hxk
                simpa using hxk.2
              have HXI := show Hid _ from hxi
              clear hxi hxk
              have hltz : (i : Int) < (F.length : Int) := by omega
              have hizz : (0 : Int) ≤ (i : Int) := by omega
              go_wp2
              go_loopw [18] (fun v18 wr => ∃ j nq : Nat, j < m ∧ v18 = .int .i64 j ∧ Hid (Lies F s0 i j) ∧ wr = z9.drewN nq) (fun v18 _ => m - (intOf v18).toNat)
              case atStart => exact ⟨j, nq, by rw [← hlen0.out]; exact hLi.out.lt HXI.out, rfl, hLi.out, rfl⟩
              case round =>
                obtain ⟨j2, nq2, hj2, rfl, hL2, rfl⟩ := hrel
                obtain ⟨bk, off, rfl, _, hc0⟩ := T.o.cells (by omega)
                have hS := hc0 j2 hj2
                clear hc0
                have hsj : s0[j2]? = some (s0.getD j2 ByteArray.empty) := by simp [List.getD_eq_getElem?_getD, hlen0.out, hj2]
                generalize s0.getD j2 ByteArray.empty = y at hS hsj
                have HSJ := show Hid _ from hsj
                clear hsj
                have hj2z : (j2 : Int) < (m : Int) := by omega
                have hj2y : (0 : Int) ≤ (j2 : Int) := by omega
                cases e1 : (y.toList == x.toList) with
                | false =>
                  have HE1 := show Hid _ from e1
                  go_wp2_with fail
                  go_quiet (fail)
                  go_wp2
                  go_roundw
                  case rel =>
                    have hn := hL2.out.miss HXI.out HSJ.out (bytes_ne HE1.out)
                    exact ⟨j2 + 1, _, by have := hn.lt HXI.out; rw [hlen0.out] at this; exact this, by go_num, hn, rfl⟩
                  case measure => simp [intOf]; omega
                | true =>
                  have HE1 := show Hid _ from e1
                  have hje : ((j2 : Int) == (m : Int)) = false := beq_eq_false_iff_ne.2 (by omega)
                  go_wp2_with fail
                  go_quiet (fail)
                  go_wp2
                  go_roundw
                  case rel => exact ⟨i + 1, j2 + 1, _, by omega, by omega, by go_num, by go_num, hL2.out.hit HXI.out HSJ.out, rfl⟩
                  case measure => simp [intOf]; omega
            · -- the openings
              have T' : Trio (z9.drewN nq) b0 m d0 s0 b1 n1 d1 s1 b2 d2 z2 := T.below ⟨rfl, rfl, rfl, Nat.le_refl _, fun _ _ => rfl⟩
              have hC3' := hC3.same (w1 := z9.drewN nq) (fun _ _ => rfl)
              have hC6' := hC6.same (w1 := z9.drewN nq) (fun _ _ => rfl)
              have hbN : Below w'.heap.size w' (z9.drewN nq) := ⟨hb3.os, hb3.tape, hb3.output, hb3.size, hb3.block⟩
              generalize z9.drewN nq = W at *
              clear T hC3 hC6 hb3 N1 HL0 hLi
              go_wp2
              go_loop [20, 21] (fun v i => ∃ m : Nat, m ≤ n1 ∧ i = .int .i64 m ∧ v = .int .i64 (kept p q s1 m)) (fun _ i => n1 - (intOf i).toNat)
              case atStart => exact ⟨0, Nat.zero_le _, rfl, rfl⟩
              case round =>
                obtain ⟨m4, hm4, rfl, rfl⟩ := hrel
                have hkl := kept_le p q s1 m4
                by_cases hmn : m4 < n1
                · obtain ⟨bk, off, rfl, _, hc0⟩ := T'.p.cells (by omega)
                  have hS := hc0 m4 hmn
                  clear hc0
                  have hsm : s1[m4]? = some (s1.getD m4 ByteArray.empty) := by simp [List.getD_eq_getElem?_getD, hlen1.out, hmn]
                  generalize s1.getD m4 ByteArray.empty = s at hS hsm
                  have HSM := show Hid _ from hsm
                  clear hsm
                  generalize hkk : kept p q s1 m4 = kk at *
                  have HKK := show Hid _ from hkk
                  clear hkk
                  cases e1 : (s.toList == p.toList) with
                  | true =>
                    have HE1 := show Hid _ from e1
                    go_wp2
                    go_round
                    case rel => exact ⟨m4 + 1, by omega, by go_num, by rw [kept_no HSM.out (by unfold keep2 isP; rw [HE1.out]; rfl), HKK.out]⟩
                    case measure => simp [intOf]; omega
                  | false =>
                    have HE1 := show Hid _ from e1
                    cases e2 : (s.toList == q.toList) with
                    | true =>
                      have HE2 := show Hid _ from e2
                      go_wp2
                      go_round
                      case rel => exact ⟨m4 + 1, by omega, by go_num, by rw [kept_no HSM.out (by unfold keep2 isP; rw [HE1.out, HE2.out]; rfl), HKK.out]⟩
                      case measure => simp [intOf]; omega
                    | false =>
                      have HE2 := show Hid _ from e2
                      go_wp2
                      go_round
                      case rel => exact ⟨m4 + 1, by omega, by go_num, by rw [kept_yes HSM.out (by unfold keep2 isP; rw [HE1.out, HE2.out]; rfl), HKK.out]; go_num⟩
                      case measure => simp [intOf]; omega
                · obtain rfl : m4 = n1 := by omega
                  have hpl : os1.map pl = os2.map pl := pl_eq (HL1.out.1.trans HL2.out.1.symm) (HL1.out.2.trans HL2.out.2.symm)
                  have q1 := ops_pl p q os1
                  have q2 := ops_pl p q os2
                  rw [← hpl] at q2
                  have hkc : kept p q s1 m4 = ((os1.map pl).filter (fun x => keep2 p q x.1)).length := by rw [count_pl, HL1.out.1, ← kept_all, hlen1.out]
                  have hLP : Lies ((os1.map pl).filter (fun x => keep2 p q x.1)) (os1.map pl) 0 0 := Lies.start _ _
                  have hPat : ∀ t, t < m4 → (os1.map pl)[t]? = some (s1.getD t ByteArray.empty, z2.getD t 0) := fun t ht => pl_at HL1.out.1 HL1.out.2 t (by rw [hlen1.out]; exact ht)
                  have hPl : (os1.map pl).length = m4 := by rw [List.length_map, ← hlen1.out, ← HL1.out.1, List.length_map]
                  have hPk : ∀ (i : Nat) (x : ByteArray × Int), ((os1.map pl).filter (fun x => keep2 p q x.1))[i]? = some x → keep2 p q x.1 = true := fun i x hx => (List.mem_filter.1 (List.mem_of_getElem? hx)).2
                  generalize os1.filter (fun o => keep2 p q o.peer) = O1 at *
                  generalize os2.filter (fun o => keep2 p q o.peer) = O2 at *
                  generalize (os1.map pl).filter (fun x => keep2 p q x.1) = PF at *
                  generalize os1.map pl = P at *
                  have l1 : O1.length = PF.length := by rw [← q1, List.length_map]
                  have l2 : O2.length = PF.length := by rw [← q2, List.length_map]
                  have c1 := count_any W hC3'
                  have c2 := count_any W hC6'
                  rw [l1] at c1
                  rw [l2] at c2
                  rw [hkc]
                  have hPFs : PF.length ≤ m4 := by rw [← hkc]; exact hkl
                  have HP : Hid ((∀ t, t < m4 → P[t]? = some (s1.getD t ByteArray.empty, z2.getD t 0)) ∧ P.length = m4 ∧ (∀ (i : Nat) (x : ByteArray × Int), PF[i]? = some x → keep2 p q x.1 = true) ∧ O1.map pl = PF ∧ O2.map pl = PF) := ⟨hPat, hPl, hPk, q1, q2⟩
                  have HLP := show Hid _ from hLP
                  have C1 := show Hid _ from c1
                  have C2 := show Hid _ from c2
                  clear hpl q1 q2 hkc hLP hPat hPl hPk l1 l2 c1 c2 hkl
                  go_wp2_with fail
                  refine Calls.mono C1.out ?_
                  rintro e W1 ⟨rfl, rfl⟩
                  go_wp2_with fail
                  refine Calls.mono C2.out ?_
                  rintro e W2 ⟨rfl, rfl⟩
                  go_wp2
                  go_loop [18, 22, 23, 24, 25, 26] (fun v18 v22 _ _ _ _ => ∃ i j : Nat, i ≤ PF.length ∧ j ≤ m4 ∧ v22 = .int .i64 i ∧ v18 = .int .i64 j ∧ Hid (Lies PF P i j)) (fun _ v22 _ _ _ _ => PF.length - (intOf v22).toNat)
                  case atStart => exact ⟨0, 0, Nat.zero_le _, Nat.zero_le _, rfl, rfl, HLP.out⟩
                  case round =>
                    obtain ⟨i5, j5, hi5, hj5, rfl, rfl, hL5⟩ := hrel
                    by_cases hlt5 : i5 < PF.length
                    · obtain ⟨⟨pe, ln⟩, hx⟩ : ∃ x, PF[i5]? = some x := ⟨_, List.getElem?_eq_getElem hlt5⟩
                      have hxk := HP.out.2.2.1 i5 _ hx
                      have g1' : ∃ o, O1[i5]? = some o ∧ pl o = (pe, ln) := by
                        have h := hx
                        rw [← HP.out.2.2.2.1, List.getElem?_map] at h
                        obtain ⟨o, ho, ho2⟩ := Option.map_eq_some_iff.1 h
                        exact ⟨o, ho, ho2⟩
                      have g2' : ∃ o, O2[i5]? = some o ∧ pl o = (pe, ln) := by
                        have h := hx
                        rw [← HP.out.2.2.2.2, List.getElem?_map] at h
                        obtain ⟨o, ho, ho2⟩ := Option.map_eq_some_iff.1 h
                        exact ⟨o, ho, ho2⟩
                      obtain ⟨⟨bk1, pe1, ln1⟩, ho1, he1⟩ := g1'
                      obtain ⟨⟨bk2, pe2, ln2⟩, ho2, he2⟩ := g2'
                      simp only [pl, Prod.mk.injEq] at he1 he2
                      obtain ⟨rfl, rfl⟩ := he1
                      obtain ⟨rfl, rfl⟩ := he2
                      have x1 : (pe2.toList == p.toList) = false := by
                        unfold keep2 isP at hxk
                        rw [Bool.and_eq_true] at hxk
                        simpa using hxk.1
                      have x2 : (pe2.toList == q.toList) = false := by
                        unfold keep2 isP at hxk
                        rw [Bool.and_eq_true] at hxk
                        simpa using hxk.2
                      have A1 := show Hid _ from at_any i5 _ _ hC3' ho1
                      have A2 := show Hid _ from at_any i5 _ _ hC6' ho2
                      have I1 := (hC3'.each _ (List.mem_of_getElem? ho1)).2
                      have I2 := (hC6'.each _ (List.mem_of_getElem? ho2)).2
                      have P1 := show Hid _ from peer_any _ _ I1
                      have P2 := show Hid _ from peer_any _ _ I2
                      have K1 := show Hid _ from link_any _ _ I1
                      have K2 := show Hid _ from link_any _ _ I2
                      have HX := show Hid _ from hx
                      clear hx hxk ho1 ho2 I1 I2
                      have hltz : (i5 : Int) < (PF.length : Int) := by omega
                      go_wp2_with fail
                      refine Calls.mono A1.out ?_
                      rintro e W1 ⟨rfl, rfl⟩
                      go_wp2_with fail
                      refine Calls.mono A2.out ?_
                      rintro e W1 ⟨rfl, rfl⟩
                      go_wp2_with fail
                      refine Calls.mono P1.out ?_
                      rintro e W1 ⟨rfl, rfl⟩
                      go_wp2_with fail
                      refine Calls.mono K1.out ?_
                      rintro e W1 ⟨rfl, rfl⟩
                      go_wp2_with fail
                      refine Calls.mono P2.out ?_
                      rintro e W1 ⟨rfl, rfl⟩
                      go_wp2_with fail
                      refine Calls.mono K2.out ?_
                      rintro e W1 ⟨rfl, rfl⟩
                      go_wp2
                      go_loop [18] (fun v18 => ∃ j : Nat, j < m4 ∧ v18 = .int .i64 j ∧ Hid (Lies PF P i5 j)) (fun v18 => m4 - (intOf v18).toNat)
                      case atStart => exact ⟨j5, by rw [← HP.out.2.1]; exact hL5.out.lt HX.out, rfl, hL5.out⟩
                      case round =>
                        obtain ⟨j6, hj6, rfl, hL6⟩ := hrel
                        obtain ⟨bk, off, rfl, _, hc0⟩ := T'.p.cells (by omega)
                        have hS := hc0 j6 hj6
                        clear hc0
                        obtain ⟨bkz, offz, rfl, _, hc0⟩ := T'.l.cells (by omega)
                        have hZ := hc0 j6 hj6
                        clear hc0
                        have hPj := HP.out.1 j6 hj6
                        generalize s1.getD j6 ByteArray.empty = y at hS hPj
                        generalize z2.getD j6 0 = zz at hZ hPj
                        have HPJ := show Hid _ from hPj
                        clear hPj
                        have hj6z : (j6 : Int) < (m4 : Int) := by omega
                        cases e1 : (y.toList == pe2.toList) with
                        | false =>
                          have HE1 := show Hid _ from e1
                          go_wp2
                          go_round
                          case rel =>
                            have hn := hL6.out.miss HX.out HPJ.out (fun e => bytes_ne HE1.out (congrArg Prod.fst e))
                            exact ⟨j6 + 1, by have := hn.lt HX.out; rw [HP.out.2.1] at this; exact this, by go_num, hn⟩
                          case measure => simp [intOf]; omega
                        | true =>
                          have HE1 := show Hid _ from e1
                          cases e2 : (zz == ln2) with
                          | false =>
                            have HE2 := show Hid _ from e2
                            go_wp2
                            go_round
                            case rel =>
                              have hn := hL6.out.miss HX.out HPJ.out (fun e => by have h2 := HE2.out; have h3 : zz = ln2 := congrArg Prod.snd e; rw [h3] at h2; simp at h2)
                              exact ⟨j6 + 1, by have := hn.lt HX.out; rw [HP.out.2.1] at this; exact this, by go_num, hn⟩
                            case measure => simp [intOf]; omega
                          | true =>
                            have hje : ((j6 : Int) == (m4 : Int)) = false := beq_eq_false_iff_ne.2 (by omega)
                            go_wp2
                            go_round
                            case rel => exact ⟨i5 + 1, j6 + 1, by omega, by omega, by go_num, by go_num, hL6.out.hit HX.out HPJ.out⟩
                            case measure => simp [intOf]; omega
                    · go_wp2
                      go_ret
                      exact ⟨rfl, hbN⟩
    · have g8' : ((n1 : Int) != n2) = true := by simp; omega
      go_wp2; go_ret; exact ⟨rfl, Below.refl _ _⟩
end Go.Proofs.Qxb6616671a
