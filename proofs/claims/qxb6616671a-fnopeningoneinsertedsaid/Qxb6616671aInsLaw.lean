/-
  THE WALK OF FnOpeningOneInserted.
-/
import Derived.Test.Qxb6616671aCast
import Derived.Test.Qxb6616671aLook
import Derived.Test.Qxb6616671aTwo
import Derived.Test.Qxb6616671aFind
import Derived.Deep.QuietTactic
import Derived.BigQuiet
namespace Go.Proofs.Qxb6616671a
open Go.RowKit

set_option maxRecDepth 100000 in
set_option maxHeartbeats 4000000 in
theorem law5_main (a1 : Option Addr) (n1 c1 : Nat) (s1 : List ByteArray) (a2 : Option Addr) (n2 c2 : Nat) (z2 : List Int) (kk : Int) (p : ByteArray) (li pr : Int) (w : World) (h1 : HasStrs w a1 n1 c1 s1) (h2 : HasNums w a2 n2 c2 z2) (hp : p.size ≤ maxLen) (g1 : ¬ 65536 < n1) (g2 : ¬ 65536 < n2) (g3 : ¬ 1048576 < p.size) (g4 : ¬ 1048576 < (p.size : Int) + 8 * n2) :
    Calls Try.prog 5 #[.slice a1 n1 c1, .slice a2 n2 c2, .int .i64 kk, .string p, .int .u64 li, .int .u64 pr] w fun e w' => e = .returned (.bool true) ∧ Below w.heap.size w w' := by
  have m2 : n2 ≤ 9223372036854775807 := by have := h2.le; have := h2.cap; unfold maxLen at this; omega
  have B21 := show Hid _ from bytes21_any a1 n1 c1 s1 a2 n2 c2 kk p li pr w h1 m2 hp
  unfold maxLen at hp
  have q34 := eq34
  go_enter Try.func5, Try.ntmps5
  go_wp2_with fail
  refine Calls.mono B21.out ?_
  rintro e w' ⟨⟨r, rfl⟩, rfl⟩
  clear B21
  cases r with
  | false => go_wp2; go_ret; exact ⟨rfl, Below.refl _ _⟩
  | true =>
    go_wp2_with fail
    refine (addStrs_any _ _ _ _ _ _ h1).mono ?_
    rintro e w' ⟨⟨t1, rfl⟩, rfl⟩
    by_cases g5 : 1048576 < t1
    · go_wp2; go_ret; exact ⟨rfl, Below.refl _ _⟩
    by_cases g6 : n1 = n2
    · subst g6
      by_cases g7 : kk < 0
      · go_wp2; go_ret; exact ⟨rfl, Below.refl _ _⟩
      by_cases g8 : (n1 : Int) < kk
      · go_wp2; go_ret; exact ⟨rfl, Below.refl _ _⟩
      obtain ⟨k, rfl⟩ := Int.eq_ofNat_of_zero_le (by omega : 0 ≤ kk)
      have hkn : k ≤ n1 := by omega
      clear g7 g8 g4
      go_wp2_with fail
      refine (cloneStrs_any _ _ _ s1 _ h1 (by omega)).mono ?_
      rintro e w1 ⟨⟨a1', c1', rfl, h1'⟩, hb1⟩
      replace h2 := h2.below (Nat.le_refl _) hb1
      go_wp2_with fail
      refine (cloneU64_any _ _ _ z2 _ h2 (by omega)).mono ?_
      rintro e w2 ⟨⟨a2', c2', rfl, h2'⟩, hb2⟩
      replace h1' := h1'.below (Nat.le_refl _) hb2
      replace hb2 := hb1.trans (hb2.mono hb1.size)
      clear h1 h2 hb1
      obtain ⟨i9, hi9, hz9, hs9, hb9⟩ := info_parts Try.info9
      obtain ⟨i37, hi37, hz37, hs37, hb37⟩ := info_parts Try.info37
      go_wp2_with (first | (at_make; refine wpList_make_own _ rfl _ _ 22 rfl w2.heap.size 9 i9 (.string ByteArray.empty) 1 Try.underlying22 hi9 hz9 hs9 .i64 .i64 _ (n1 + 1) rfl rfl (by omega) (by rw [hb9]; omega) (by unfold maxLen; omega) (Nat.le_refl _) ?_; intro w3 hown3 hgrow3) | (at_make; refine wpList_make_own _ rfl _ _ 23 rfl w2.heap.size 37 i37 (.int .u64 0) 1 Try.underlying23 hi37 hz37 hs37 .i64 .i64 _ (n1 + 1) rfl rfl (by omega) (by rw [hb37]; omega) (by unfold maxLen; omega) hgrow3.size ?_; intro w4 hown4 hgrow4))
      have hT0 : Two w4 w2.heap.size w2.heap.size w3.heap.size (n1 + 1) 0 [] [] := ⟨ownsRow_same hown3 fun g e => by
        obtain rfl : w2.heap.size = g := by simpa [Value.ownBlock] using e
        exact hgrow4.block _ (by have := (hown3.lt _ rfl).2; omega) (by simp), hown4⟩
      have hB0 : Below w2.heap.size w2 w4 := ((Below.refl _ _).grown hgrow3 (Nat.le_refl _) (by simp)).grown hgrow4 hgrow3.size (by simp)
      have hlen1 : Hid (s1.length = n1) := h1'.len
      have hlen2 : Hid (z2.length = n1) := h2'.len
      have HT0 := show Hid _ from hT0
      have HB0 := show Hid _ from hB0
      clear hT0 hB0 hown3 hown4 hgrow3 hgrow4
      go_loopw [15, 16, 17] (fun v15 v16 i wr => ∃ j : Nat, j ≤ k ∧ i = .int .i64 j ∧ v15 = .slice (some ⟨w2.heap.size, 0, none⟩) j (n1 + 1) ∧ v16 = .slice (some ⟨w3.heap.size, 0, none⟩) j (n1 + 1) ∧ Hid (Two wr w2.heap.size w2.heap.size w3.heap.size (n1 + 1) j (s1.take j) (z2.take j)) ∧ Hid (Below w2.heap.size w2 wr)) (fun _ _ i _ => k - (intOf i).toNat)
      case atStart => exact ⟨0, Nat.zero_le _, rfl, rfl, rfl, HT0.out, HB0.out⟩
      case round =>
        obtain ⟨j, hj, rfl, rfl, rfl, hT, hB⟩ := hrel
        by_cases hlt : j < k
        · obtain ⟨b, off, rfl, hbl, hc0⟩ := h1'.cells (by omega)
          have hS := (hB.out.cell (p := ⟨b, off + j, none⟩) hbl).trans (hc0 j (by omega))
          clear hc0
          obtain ⟨b2, off2, rfl, hbl2, hc0⟩ := h2'.cells (by omega)
          have hS2 := (hB.out.cell (p := ⟨b2, off2 + j, none⟩) hbl2).trans (hc0 j (by omega))
          clear hc0
          generalize hg : s1.getD j ByteArray.empty = s at hS
          generalize hg2 : z2.getD j 0 = z at hS2
          have HG := show Hid _ from hg
          have HG2 := show Hid _ from hg2
          clear hg hg2
          have hsz := hB.out.size
          have hl1 := hT.out.lt1
          have hl2 := hT.out.lt2
          go_wp2_with (first | (at_builtin; refine wpList_append_fits _ rfl (.tmp 94) (.tmp 99) 22 rfl w2.heap.size 9 i9 1 Try.underlying22 hi9 hs9 w2.heap.size j (n1 + 1) _ rfl (hT.out.r1.alloc _) ⟨wr.heap.size, 0, none⟩ 1 1 [.string s] rfl rfl (cell_one_new _ _ _) (by simp [Value.oneCell']) (by omega) ?_; intro x1 hx1 hgx1; have hS2' : x1.cell? ⟨b2, off2 + j, none⟩ = some (.int .u64 z) := (hgx1.cell_far _ (by simp; omega) (by simp; omega)).trans ((World.cell?_alloc_past _ _ _ (by omega)).trans hS2); have hr2 := hT.out.mid hgx1) | (at_builtin; refine wpList_append_fits _ rfl (.tmp 101) (.tmp 106) 23 rfl w2.heap.size 37 i37 1 Try.underlying23 hi37 hs37 w3.heap.size j (n1 + 1) _ rfl (hr2.alloc _) ⟨x1.heap.size, 0, none⟩ 1 1 [.int .u64 z] rfl rfl (cell_one_new _ _ _) (by simp [Value.oneCell']) (by omega) ?_; intro x2 hx2 hgx2))
          have hP := hT.out.push hgx1 hx1 hgx2 hx2
          have HP := show Hid _ from hP
          clear hP hx1 hgx1 hx2 hgx2 hS hS2 hS2' hr2
          go_roundw
          case rel =>
            refine ⟨j + 1, by omega, by go_num, rfl, rfl, ?_, hB.out.trans HP.out.2⟩
            rw [take_snoc ByteArray.empty s1 j (by rw [hlen1.out]; omega), take_snoc 0 z2 j (by rw [hlen2.out]; omega), HG.out, HG2.out]
            exact HP.out.1
          case measure => simp [intOf]; omega
        · obtain rfl : j = k := by omega
          have hsz := hB.out.size
          have hl1 := hT.out.lt1
          have hl2 := hT.out.lt2
          go_wp2_with (first | (at_builtin; refine wpList_append_fits _ rfl (.tmp 108) (.tmp 110) 22 rfl w2.heap.size 9 i9 1 Try.underlying22 hi9 hs9 w2.heap.size j (n1 + 1) _ rfl (hT.out.r1.alloc _) ⟨wr.heap.size, 0, none⟩ 1 1 [.string p] rfl rfl (cell_one_new _ _ _) (by simp [Value.oneCell']) (by omega) ?_; intro x1 hx1 hgx1; have hr2 := hT.out.mid hgx1) | (at_builtin; refine wpList_append_fits _ rfl (.tmp 112) (.tmp 114) 23 rfl w2.heap.size 37 i37 1 Try.underlying23 hi37 hs37 w3.heap.size j (n1 + 1) _ rfl (hr2.alloc _) ⟨x1.heap.size, 0, none⟩ 1 1 [.int .u64 li] rfl rfl (cell_one_new _ _ _) (by simp [Value.oneCell']) (by omega) ?_; intro x2 hx2 hgx2))
          have hP := hT.out.push hgx1 hx1 hgx2 hx2
          have HT1 : Hid (Two x2 w2.heap.size w2.heap.size w3.heap.size (n1 + 1) (j + 1) (insTo j p s1 j) (insTo j li z2 j)) := by rw [insTo_start, insTo_start]; exact hP.1
          have HB1 : Hid (Below w2.heap.size w2 x2) := hB.out.trans hP.2
          clear hP hx1 hgx1 hx2 hgx2 hr2 hT hB
          go_loopw [15, 16, 18] (fun v15 v16 i wr => ∃ q : Nat, j ≤ q ∧ q ≤ n1 ∧ i = .int .i64 q ∧ v15 = .slice (some ⟨w2.heap.size, 0, none⟩) (q + 1) (n1 + 1) ∧ v16 = .slice (some ⟨w3.heap.size, 0, none⟩) (q + 1) (n1 + 1) ∧ Hid (Two wr w2.heap.size w2.heap.size w3.heap.size (n1 + 1) (q + 1) (insTo j p s1 q) (insTo j li z2 q)) ∧ Hid (Below w2.heap.size w2 wr)) (fun _ _ i _ => n1 - (intOf i).toNat)
          case atStart => exact ⟨j, Nat.le_refl _, hkn, rfl, rfl, rfl, HT1.out, HB1.out⟩
          case round =>
            obtain ⟨q, hjq, hq, rfl, rfl, rfl, hT, hB⟩ := hrel
            by_cases hlt2 : q < n1
            · obtain ⟨b, off, rfl, hbl, hc0⟩ := h1'.cells (by omega)
              have hS := (hB.out.cell (p := ⟨b, off + q, none⟩) hbl).trans (hc0 q (by omega))
              clear hc0
              obtain ⟨b2, off2, rfl, hbl2, hc0⟩ := h2'.cells (by omega)
              have hS2 := (hB.out.cell (p := ⟨b2, off2 + q, none⟩) hbl2).trans (hc0 q (by omega))
              clear hc0
              generalize hg : s1.getD q ByteArray.empty = s at hS
              generalize hg2 : z2.getD q 0 = z at hS2
              have HG := show Hid _ from hg
              have HG2 := show Hid _ from hg2
              clear hg hg2
              have hsz := hB.out.size
              have hl1 := hT.out.lt1
              have hl2 := hT.out.lt2
              go_wp2_with (first | (at_builtin; refine wpList_append_fits _ rfl (.tmp 122) (.tmp 127) 22 rfl w2.heap.size 9 i9 1 Try.underlying22 hi9 hs9 w2.heap.size (q + 1) (n1 + 1) _ rfl (hT.out.r1.alloc _) ⟨wr.heap.size, 0, none⟩ 1 1 [.string s] rfl rfl (cell_one_new _ _ _) (by simp [Value.oneCell']) (by omega) ?_; intro x1 hx1 hgx1; have hS2' : x1.cell? ⟨b2, off2 + q, none⟩ = some (.int .u64 z) := (hgx1.cell_far _ (by simp; omega) (by simp; omega)).trans ((World.cell?_alloc_past _ _ _ (by omega)).trans hS2); have hr2 := hT.out.mid hgx1) | (at_builtin; refine wpList_append_fits _ rfl (.tmp 129) (.tmp 134) 23 rfl w2.heap.size 37 i37 1 Try.underlying23 hi37 hs37 w3.heap.size (q + 1) (n1 + 1) _ rfl (hr2.alloc _) ⟨x1.heap.size, 0, none⟩ 1 1 [.int .u64 z] rfl rfl (cell_one_new _ _ _) (by simp [Value.oneCell']) (by omega) ?_; intro x2 hx2 hgx2))
              have hP := hT.out.push hgx1 hx1 hgx2 hx2
              have HP := show Hid _ from hP
              clear hP hx1 hgx1 hx2 hgx2 hS hS2 hS2' hr2
              go_roundw
              case rel =>
                refine ⟨q + 1, by omega, by omega, by go_num, rfl, rfl, ?_, hB.out.trans HP.out.2⟩
                rw [insTo_succ j p ByteArray.empty s1 q hjq (by rw [hlen1.out]; omega), insTo_succ j li 0 z2 q hjq (by rw [hlen2.out]; omega), HG.out, HG2.out]
                exact HP.out.1
              case measure => simp [intOf]; omega
            · obtain rfl : q = n1 := by omega
              have hbw := hB.out
              replace h1' := h1'.below (Nat.le_refl _) hbw
              replace h2' := h2'.below (Nat.le_refl _) hbw
              replace hb2 := hb2.trans (hbw.mono hb2.size)
              clear hbw hB
              have hsmall : ∀ s ∈ insTo j p s1 q, s.size ≤ maxLen := by
                intro s hs
                unfold insTo at hs
                rcases List.mem_append.1 hs with hs | hs
                · rcases List.mem_append.1 hs with hs | hs
                  · exact h1'.small s (List.mem_of_mem_take hs)
                  · obtain rfl : s = p := by simpa using hs
                    unfold maxLen
                    omega
                · exact h1'.small s (List.mem_of_mem_take (List.mem_of_mem_drop hs))
              have hP := hT.out.strs hsmall
              have hN := hT.out.nums
              clear hsmall hT HT1 HB1 HT0 HB0
              go_wp2_with fail
              refine (cloneStrs_any _ _ _ s1 _ h1' (by omega)).mono ?_
              rintro e y1 ⟨⟨a3, c3, rfl, h3⟩, hb3⟩
              replace h1' := h1'.below (Nat.le_refl _) hb3
              replace h2' := h2'.below (Nat.le_refl _) hb3
              replace hP := hP.below (Nat.le_refl _) hb3
              replace hN := hN.below (Nat.le_refl _) hb3
              replace hb3 := hb2.trans (hb3.mono hb2.size)
              clear hb2
              go_wp2_with fail
              refine (cloneU64_any _ _ _ z2 _ h2' (by omega)).mono ?_
              rintro e y2 ⟨⟨a4, c4, rfl, h4⟩, hb4⟩
              replace h1' := h1'.below (Nat.le_refl _) hb4
              replace h2' := h2'.below (Nat.le_refl _) hb4
              replace h3 := h3.below (Nat.le_refl _) hb4
              replace hP := hP.below (Nat.le_refl _) hb4
              replace hN := hN.below (Nat.le_refl _) hb4
              replace hb4 := hb3.trans (hb4.mono hb3.size)
              clear hb3
              go_wp2_with fail
              refine (newCast_any none 0 0 [] _ _ _ s1 _ _ z2 _ (hasStrs_nil _) h3 h4 (by omega) (by omega)).mono ?_
              rintro e y3 ⟨⟨B1, vo1, vp1, os1, rfl, hC1, hp1, hl1⟩, hb5⟩
              replace h1' := h1'.below (Nat.le_refl _) hb5
              replace h2' := h2'.below (Nat.le_refl _) hb5
              replace hP := hP.below (Nat.le_refl _) hb5
              replace hN := hN.below (Nat.le_refl _) hb5
              replace hb5 := hb4.trans (hb5.mono hb4.size)
              clear hb4 h3 h4
              go_wp2_with fail
              refine (newCast_any none 0 0 [] _ _ _ _ _ _ _ _ (hasStrs_nil _) hP hN (by omega) (by omega)).mono ?_
              rintro e y4 ⟨⟨B2, vo2, vp2, os2, rfl, hC2, hp2, hl2⟩, hb6⟩
              replace h1' := h1'.below (Nat.le_refl _) hb6
              replace h2' := h2'.below (Nat.le_refl _) hb6
              replace hC1 := hC1.below (Nat.le_refl _) hb6
              replace hb6 := hb5.trans (hb6.mono hb5.size)
              clear hb5 hP hN
              have HL1 : Hid (os1.map Opn.peer = s1 ∧ os1.map Opn.link = z2) := ⟨hp1, hl1⟩
              have HL2 : Hid (os2.map Opn.peer = insTo j p s1 q ∧ os2.map Opn.link = insTo j li z2 q) := ⟨hp2, hl2⟩
              have ho1 : os1.length ≤ 1000000 := by
                have := congrArg List.length HL1.out.1
                simp [hlen1.out] at this
                omega
              have ho2 : os2.length ≤ 1000000 := by
                have := congrArg List.length HL2.out.1
                simp [insTo, hlen1.out] at this
                omega
              clear hp1 hl1 hp2 hl2
              go_wp2_with fail
              refine (zzopening_any pr _ hC1 ho1).mono ?_
              rintro e y5 ⟨rfl, rfl⟩
              go_wp2_with fail
              refine (zzopening_any pr _ hC2 ho2).mono ?_
              rintro e y5 ⟨rfl, rfl⟩
              go_wp2
              go_loop [23, 24] (fun v i => ∃ m : Nat, m ≤ q ∧ i = .int .i64 m ∧ ((v = .int .i64 (-1) ∧ Hid (NoHit z2 pr m)) ∨ ∃ t : Nat, v = .int .i64 t ∧ t < q ∧ Hid (FirstAt z2 pr t))) (fun _ i => q - (intOf i).toNat)
              case atStart => exact ⟨0, Nat.zero_le _, rfl, .inl ⟨rfl, NoHit.zero _ _⟩⟩
              case round =>
                obtain ⟨m, hm, rfl, hv⟩ := hrel
                rcases hv with ⟨rfl, hno⟩ | ⟨t, rfl, htq, hft⟩
                · by_cases hmq : m < q
                  · obtain ⟨b2, off2, rfl, hbl2, hc0⟩ := h2'.cells (by omega)
                    have hS2 := hc0 m hmq
                    clear hc0
                    generalize hg2 : z2.getD m 0 = z at hS2
                    have HG2 := show Hid _ from hg2
                    clear hg2
                    cases hq : (z == pr) with
                    | true =>
                      have HQ := show Hid _ from hq
                      go_wp2
                      go_round
                      case rel => exact ⟨m + 1, by omega, by go_num, .inr ⟨m, rfl, hmq, by rw [hlen2.out]; exact hmq, by rw [HG2.out]; exact HQ.out, hno.out⟩⟩
                      case measure => simp [intOf]; omega
                    | false =>
                      have HQ := show Hid _ from hq
                      go_wp2
                      go_round
                      case rel => exact ⟨m + 1, by omega, by go_num, .inl ⟨rfl, hno.out.succ (by rw [HG2.out]; exact HQ.out)⟩⟩
                      case measure => simp [intOf]; omega
                  · obtain rfl : m = q := by omega
                    -- no opening has the link
                    have hno' : NoHit z2 pr z2.length := by rw [hlen2.out]; exact hno.out
                    have f1 := os_none HL1.out.2 hno'
                    have hjl : j ≤ z2.length := by rw [hlen2.out]; exact hkn
                    rw [f1]
                    simp only [ptrTo]
                    by_cases hpl : pr = li
                    · subst hpl
                      have hfa := ins_new (k := j) (li := pr) hjl (fun t ht => hno' t (by omega)) (by simp)
                      rw [hlen2.out] at hfa
                      obtain ⟨⟨bk2, pe2, ln2⟩, hot, hpe, hln, hfi⟩ := os_first HL2.out.1 HL2.out.2 hfa
                      have e1 := insTo_eq ByteArray.empty p s1 j (by rw [hlen1.out]; exact hkn)
                      rw [hlen1.out] at e1
                      rw [e1] at hpe
                      simp only at hpe hln
                      subst hpe
                      subst hln
                      rw [hfi]
                      simp only
                      have hO2 := (hC2.each _ (List.mem_of_getElem? hot)).2
                      clear f1 hno' hfa hfi e1
                      have HOT := show Hid _ from hot
                      clear hot
                      go_wp2_with fail
                      refine (at_any j _ _ hC2 HOT.out).mono ?_
                      rintro e y5 ⟨rfl, rfl⟩
                      go_wp2_with fail
                      refine (peer_any _ _ hO2).mono ?_
                      rintro e y5 ⟨rfl, rfl⟩
                      go_wp2_with fail
                      refine (link_any _ _ hO2).mono ?_
                      rintro e y5 ⟨rfl, rfl⟩
                      go_wp2
                      go_ret
                      exact ⟨rfl, hb6⟩
                    · have hpl' : (pr == li) = false := by simpa using hpl
                      have hfa := ins_none (k := j) (li := li) hjl hno' (by simpa using Ne.symm hpl)
                      rw [hlen2.out] at hfa
                      have f2 := os_none HL2.out.2 hfa
                      rw [f2]
                      simp only
                      clear f1 f2 hno' hfa
                      go_wp2
                      go_ret
                      exact ⟨rfl, hb6⟩
                · have hjl : j ≤ z2.length := by rw [hlen2.out]; exact hkn
                  have hjl1 : j ≤ s1.length := by rw [hlen1.out]; exact hkn
                  obtain ⟨⟨bk1, pe1, ln1⟩, hot1, hpe1, hln1, hfi1⟩ := os_first HL1.out.1 HL1.out.2 hft.out
                  obtain ⟨b1, off1, rfl, hbl1, hc0⟩ := h1'.cells (by omega)
                  have hS1 := hc0 t htq
                  clear hc0
                  simp only at hpe1 hln1
                  rw [← hpe1] at hS1
                  subst hln1
                  rw [hfi1]
                  simp only [ptrTo]
                  have hO1 := (hC1.each _ (List.mem_of_getElem? hot1)).2
                  have HOT1 := show Hid _ from hot1
                  clear hot1 hfi1
                  have HPE := show Hid _ from hpe1
                  clear hpe1
                  -- where the new list has the link first
                  obtain ⟨e2, want, bk2, HOT2, hfi2, hcase⟩ : ∃ (e2 : Nat) (want : ByteArray) (bk2 : Nat), Hid (os2[e2]? = some ⟨bk2, want, ln1⟩) ∧ os2.find? (fun o => o.link == ln1) = some ⟨bk2, want, ln1⟩ ∧
                      Hid ((e2 = j ∧ want = p ∧ ln1 = li ∧ j ≤ t) ∨ (e2 = t ∧ want = pe1 ∧ t < j) ∨ (e2 = t + 1 ∧ want = pe1 ∧ ln1 ≠ li ∧ j ≤ t)) := by
                    by_cases c1 : t < j
                    · have hfa := ins_before (li := li) hjl hft.out c1
                      rw [hlen2.out] at hfa
                      obtain ⟨⟨bk2, pe2, ln2⟩, hot2, hpe2, hln2, hfi2⟩ := os_first HL2.out.1 HL2.out.2 hfa
                      have e1 := insTo_lt ByteArray.empty p s1 j t c1 hjl1
                      rw [hlen1.out] at e1
                      rw [e1, ← HPE.out] at hpe2
                      simp only at hpe2 hln2
                      subst hpe2 hln2
                      exact ⟨t, _, bk2, hot2, hfi2, .inr (.inl ⟨rfl, rfl, c1⟩)⟩
                    · by_cases c2 : ln1 = li
                      · subst c2
                        have hfa := ins_new (k := j) (li := ln1) hjl (fun x hx => hft.out.2.2 x (by omega)) (by simp)
                        rw [hlen2.out] at hfa
                        obtain ⟨⟨bk2, pe2, ln2⟩, hot2, hpe2, hln2, hfi2⟩ := os_first HL2.out.1 HL2.out.2 hfa
                        have e1 := insTo_eq ByteArray.empty p s1 j hjl1
                        rw [hlen1.out] at e1
                        rw [e1] at hpe2
                        simp only at hpe2 hln2
                        subst hpe2 hln2
                        exact ⟨j, _, bk2, hot2, hfi2, .inl ⟨rfl, rfl, rfl, by omega⟩⟩
                      · have hfa := ins_behind (li := li) hjl hft.out (by omega) (by simpa using Ne.symm c2)
                        rw [hlen2.out] at hfa
                        obtain ⟨⟨bk2, pe2, ln2⟩, hot2, hpe2, hln2, hfi2⟩ := os_first HL2.out.1 HL2.out.2 hfa
                        have e1 := insTo_gt ByteArray.empty p s1 j t (by omega) hjl1
                        rw [hlen1.out] at e1
                        rw [e1, ← HPE.out] at hpe2
                        simp only at hpe2 hln2
                        subst hpe2 hln2
                        exact ⟨t + 1, _, bk2, hot2, hfi2, .inr (.inr ⟨rfl, rfl, c2, by omega⟩)⟩
                  rw [hfi2]
                  simp only
                  have hO2 := (hC2.each _ (List.mem_of_getElem? HOT2.out)).2
                  clear hfi2
                  have QA : Hid (∀ n, Calls Try.prog 16 #[.pointer (some ⟨B1, 0, none⟩), .int .i64 t] (y5.drewN n) fun e w' => e = .returned (.pointer (some ⟨bk1, 0, none⟩)) ∧ w' = y5.drewN n) := fun n => at_any t ⟨bk1, pe1, ln1⟩ (y5.drewN n) (hC1.same fun _ _ => rfl) HOT1.out
                  have QP : Hid (∀ n, Calls Try.prog 17 #[.pointer (some ⟨bk1, 0, none⟩)] (y5.drewN n) fun e w' => e = .returned (.string pe1) ∧ w' = y5.drewN n) := fun n => peer_any ⟨bk1, pe1, ln1⟩ (y5.drewN n) (hO1.same rfl)
                  have QL : Hid (∀ n, Calls Try.prog 18 #[.pointer (some ⟨bk1, 0, none⟩)] (y5.drewN n) fun e w' => e = .returned (.int .u64 ln1) ∧ w' = y5.drewN n) := fun n => link_any ⟨bk1, pe1, ln1⟩ (y5.drewN n) (hO1.same rfl)
                  have QA2 : Hid (∀ n (i : Int), i = (e2 : Int) → Calls Try.prog 16 #[.pointer (some ⟨B2, 0, none⟩), .int .i64 i] (y5.drewN n) fun e w' => e = .returned (.pointer (some ⟨bk2, 0, none⟩)) ∧ w' = y5.drewN n) := fun n i hi => at_int i e2 hi ⟨bk2, want, ln1⟩ (y5.drewN n) (hC2.same fun _ _ => rfl) HOT2.out
                  have QP2 : Hid (∀ n, Calls Try.prog 17 #[.pointer (some ⟨bk2, 0, none⟩)] (y5.drewN n) fun e w' => e = .returned (.string want) ∧ w' = y5.drewN n) := fun n => peer_any ⟨bk2, want, ln1⟩ (y5.drewN n) (hO2.same rfl)
                  have QL2 : Hid (∀ n, Calls Try.prog 18 #[.pointer (some ⟨bk2, 0, none⟩)] (y5.drewN n) fun e w' => e = .returned (.int .u64 ln1) ∧ w' = y5.drewN n) := fun n => link_any ⟨bk2, want, ln1⟩ (y5.drewN n) (hO2.same rfl)
                  have htz : ¬ (t : Int) < 0 := by omega
                  have htz2 : (0 : Int) ≤ (t : Int) := by omega
                  have htq2 : (t : Int) < (q : Int) := by omega
                  by_cases hmq : m < q
                  all_goals
                    rcases hcase.out with ⟨rfl, rfl, rfl, c1⟩ | ⟨rfl, rfl, c1⟩ | ⟨rfl, rfl, c2, c1⟩
                    · go_wp2_with fail
                      go_quiet (first | (go_at_call 16; exact Calls.quiet_of_same (QA.out _)) | (go_at_call 17; exact Calls.quiet_of_same (QP.out _)) | (go_at_call 18; exact Calls.quiet_of_same (QL.out _)))
                      go_wp2_with fail
                      refine Calls.mono (QA2.out _ _ (by omega)) ?_
                      rintro e y6 ⟨rfl, rfl⟩
                      go_wp2_with fail
                      refine Calls.mono (QP2.out _) ?_
                      rintro e y6 ⟨rfl, rfl⟩
                      go_wp2_with fail
                      refine Calls.mono (QL2.out _) ?_
                      rintro e y6 ⟨rfl, rfl⟩
                      go_wp2
                      go_ret
                      exact ⟨rfl, hb6.os, hb6.tape, hb6.output, hb6.size, hb6.block⟩
                    · by_cases c2 : ln1 = li
                      · have c2' : (ln1 == li) = true := by simpa using c2
                        clear c2
                        go_wp2_with fail
                        go_quiet (first | (go_at_call 16; exact Calls.quiet_of_same (QA.out _)) | (go_at_call 17; exact Calls.quiet_of_same (QP.out _)) | (go_at_call 18; exact Calls.quiet_of_same (QL.out _)))
                        go_wp2_with fail
                        refine Calls.mono (QA2.out _ _ (by omega)) ?_
                        rintro e y6 ⟨rfl, rfl⟩
                        go_wp2_with fail
                        refine Calls.mono (QP2.out _) ?_
                        rintro e y6 ⟨rfl, rfl⟩
                        go_wp2_with fail
                        refine Calls.mono (QL2.out _) ?_
                        rintro e y6 ⟨rfl, rfl⟩
                        go_wp2
                        go_ret
                        exact ⟨rfl, hb6.os, hb6.tape, hb6.output, hb6.size, hb6.block⟩
                      · have c2' : (ln1 == li) = false := by simpa using c2
                        clear c2
                        go_wp2_with fail
                        go_quiet (first | (go_at_call 16; exact Calls.quiet_of_same (QA.out _)) | (go_at_call 17; exact Calls.quiet_of_same (QP.out _)) | (go_at_call 18; exact Calls.quiet_of_same (QL.out _)))
                        go_wp2_with fail
                        refine Calls.mono (QA2.out _ _ (by omega)) ?_
                        rintro e y6 ⟨rfl, rfl⟩
                        go_wp2_with fail
                        refine Calls.mono (QP2.out _) ?_
                        rintro e y6 ⟨rfl, rfl⟩
                        go_wp2_with fail
                        refine Calls.mono (QL2.out _) ?_
                        rintro e y6 ⟨rfl, rfl⟩
                        go_wp2
                        go_ret
                        exact ⟨rfl, hb6.os, hb6.tape, hb6.output, hb6.size, hb6.block⟩
                    · have c2' : (ln1 == li) = false := by simpa using c2
                      clear c2
                      go_wp2_with fail
                      go_quiet (first | (go_at_call 16; exact Calls.quiet_of_same (QA.out _)) | (go_at_call 17; exact Calls.quiet_of_same (QP.out _)) | (go_at_call 18; exact Calls.quiet_of_same (QL.out _)))
                      go_wp2_with fail
                      refine Calls.mono (QA2.out _ _ (by omega)) ?_
                      rintro e y6 ⟨rfl, rfl⟩
                      go_wp2_with fail
                      refine Calls.mono (QP2.out _) ?_
                      rintro e y6 ⟨rfl, rfl⟩
                      go_wp2_with fail
                      refine Calls.mono (QL2.out _) ?_
                      rintro e y6 ⟨rfl, rfl⟩
                      go_wp2
                      go_ret
                      exact ⟨rfl, hb6.os, hb6.tape, hb6.output, hb6.size, hb6.block⟩
    · have g6' : ((n1 : Int) != n2) = true := by simp; omega
      go_wp2; go_ret; exact ⟨rfl, Below.refl _ _⟩
end Go.Proofs.Qxb6616671a
