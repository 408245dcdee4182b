/-
  slices.DeleteFunc at openings, over Part's second predicate.
-/
import Derived.Test.Qxb6616671aPreds
import Derived.Test.Qxb6616671aSift
import Derived.Lib.SliceRun
namespace Go.Proofs.Qxb6616671a
open Go.RowKit

/-- The pointer to an opening that is there. -/
def ptr (o : Opn) : Value := .pointer (some ⟨o.blk, 0, none⟩)
/-- Is the opening kept when the member parts from p? -/
def keepO (p : ByteArray) (o : Opn) : Bool := !isP p o.peer

theorem zero34 (w : World) : (zeroValue 34).run Try.prog w = .ok (.pointer none) w := by kernel_rfl

/-- What is known of the memory while the row is sifted. -/
structure Sifting (w wr : World) (g cap : Nat) (os : List Opn) (i j : Nat) (p : ByteArray) (E : Nat → Opn) (f : Nat → Value) : Prop where
  grown : w.grownBy wr (some g)
  row : wr.rowIs g 34 cap f
  at_ : ∀ t, t < os.length → f t = ptr (E t)
  sift : Sift (keepO p) os i j E

set_option maxHeartbeats 2000000 in
theorem del28_some (g n cap lo P : Nat) (os : List Opn) (p : ByteArray) (w : World) (hn : os.length = n) (hsm : n ≤ 1000000) (hown : w.ownsRow lo 34 1 (.slice (some ⟨g, 0, none⟩) n cap) n (os.map ptr))
    (heach : ∀ o ∈ os, IsOpn w o) (hP : w.cell? ⟨P, 0, none⟩ = some (.string p)) (hPt : TagAt w P 9) :
    Calls Try.prog 28 #[.slice (some ⟨g, 0, none⟩) n cap, .func (.func 29) #[] #[.pointer (some ⟨P, 0, none⟩)]] w fun e w' =>
      (∃ m, e = .returned (.slice (some ⟨g, 0, none⟩) m cap) ∧ m = (os.filter (keepO p)).length ∧ w'.ownsRow lo 34 1 (.slice (some ⟨g, 0, none⟩) m cap) m ((os.filter (keepO p)).map ptr)) ∧ w.grownBy w' (some g) := by
  have hN : Hid (os.length = n) := hn
  obtain ⟨f0, hrow0, hf0, hnc, hcm, hlo⟩ := rowIs_of_own hown
  rw [Nat.mul_one] at hrow0
  have htg : TagAt w g 34 := ownsRow_tag hown rfl
  have hI := idx34_any (some ⟨g, 0, none⟩) n cap os p P w hn hsm (fun t o ho => ⟨g, rfl, by
    have ht := (List.getElem?_eq_some_iff.1 ho).1
    rw [hrow0.cell (i := t) (by omega), hf0 t (ptr o) (by simp [ho])]; rfl⟩) heach hP
  have HI := show Hid _ from hI
  have HE := show Hid _ from heach
  have HPP := show Hid _ from hP
  have HOWN := show Hid _ from hown
  have HF := show Hid _ from (⟨hrow0, hf0⟩ : _ ∧ _)
  clear hn hI heach hP hown hrow0 hf0
  go_enter Try.func28, Try.ntmps28
  go_wp2_with fail
  refine Calls.mono HI.out ?_
  rintro e w1 ⟨⟨r, rfl, hr⟩, hb1⟩
  have hg1 : w.grownBy w1 (some g) := grownBy_below (World.grownBy.refl _ _) hb1
  rcases hr with ⟨rfl, hall⟩ | ⟨t0, rfl, ht0, hyes, hno⟩
  · -- nothing is struck
    go_wp2
    go_ret
    have e1 : os.filter (keepO p) = os := by
      rw [List.filter_eq_self]
      intro o ho
      obtain ⟨t, ht, rfl⟩ := List.getElem_of_mem ho
      have := hall t (by simpa using ht)
      simp [List.getD_eq_getElem?_getD, ht] at this
      simp [keepO, this]
    rw [e1]
    exact ⟨⟨n, rfl, hN.out.symm, ownsRow_same HOWN.out fun k hk => by
      obtain rfl : g = k := by simpa [Value.ownBlock] using hk
      exact hb1.block g htg.lt⟩, hg1⟩
  · have hlt0 : t0 < n := by rw [← hN.out]; simpa using ht0
    have hstart : Sifting w w1 g cap os t0 (t0 + 1) p (fun t => os.getD t ⟨0, ByteArray.empty, 0⟩) f0 := by
      refine ⟨hg1, HF.out.1.of_block (hb1.block g htg.lt), fun t ht => ?_, Sift.start _ (x := os[t0]'(by rw [hN.out]; exact hlt0)) (List.getElem?_eq_getElem _) ?_ fun t y ht hy => ?_⟩
      · exact HF.out.2 t _ (by simp [List.getD_eq_getElem?_getD, ht])
      · have h : t0 < os.length := by rw [hN.out]; exact hlt0
        simp [List.getD_eq_getElem?_getD, h] at hyes
        simp [keepO, hyes]
      · have := hno t ht
        simp [List.getD_eq_getElem?_getD, hy] at this
        simp [keepO, this]
    have HS := show Hid _ from hstart
    have hne1 : ((t0 : Int) == -1) = false := beq_eq_false_iff_ne.2 (by omega)
    clear hstart hyes hno ht0 HI hb1 hg1
    go_wp2
    go_loopw [5, 6, 7] (fun s5 s6 _ wr => ∃ (i j : Nat) (E : Nat → Opn) (f : Nat → Value), s5 = .int .i64 i ∧ s6 = .int .i64 j ∧ i < j ∧ j ≤ n ∧ Hid (Sifting w wr g cap os i j p E f)) (fun _ s6 _ _ => n - (intOf s6).toNat)
    case atStart => exact ⟨t0, t0 + 1, _, _, rfl, by go_num, by omega, by omega, HS.out⟩
    case round =>
      obtain ⟨i, j, E, f, rfl, rfl, hij, hjn, hS⟩ := hrel
      have hT := hS.out
      by_cases hlt : j < n
      · have hjl : j < os.length := by rw [hN.out]; exact hlt
        have hoj : os[j]? = some os[j] := List.getElem?_eq_getElem hjl
        generalize os[j] = o at hoj
        have hEj : E j = o := hT.sift.high j o (Nat.le_refl _) hoj
        have cj := hT.row.cell (i := j) (by omega)
        rw [hT.at_ j hjl, hEj] at cj
        have ci := hT.row.cell (i := i) (by omega)
        have fi := hT.row.frozen i
        have hop := HE.out o (List.mem_of_getElem? hoj)
        have hopr : IsOpn wr o := hop.same (hT.grown.block _ hop.tag.lt (fun e => hop.tag.ne htg (by decide) (by simpa using e)))
        have hPr : wr.cell? ⟨P, 0, none⟩ = some (.string p) := hT.grown.cell HPP.out (fun e => hPt.ne htg (by decide) (by simpa using e))
        have hq := part2_any o p P wr hopr hPr
        have hk : keepO p o = !isP p o.peer := rfl
        generalize isP p o.peer = r at hq hk
        have HQ := show Hid _ from hq
        have HK := show Hid _ from hk
        have HOJ := show Hid _ from hoj
        simp only [ptr] at cj
        generalize f i = old at ci
        clear hq hk hoj hEj hop hopr hPr hT
        have hltz : (j : Int) < (n : Int) := by omega
        cases r with
        | false =>
          go_wp2_with (go_at_call 29; refine Calls.mono HQ.out ?_; rintro e w2 ⟨rfl, hb2⟩; have ci2 := cell_later hb2 ci; have fi2 : w2.frozen? ⟨g, i, none⟩ = false := (hb2.frozen (World.block_lt_of_cell? _ _ ci)).trans fi)
          go_roundw
          case rel =>
            refine ⟨i + 1, j + 1, (fun t => if t = i then o else E t), (fun t => if t = i then ptr o else f t), by go_num, by go_num, by omega, by omega, ?_⟩
            have hT := hS.out
            refine ⟨grownBy_set (grownBy_below hT.grown hb2) i _, (hT.row.of_block (hb2.block g hT.row.lt)).set i _, fun t ht => ?_, hT.sift.keepStep HOJ.out (by rw [HK.out]; rfl)⟩
            by_cases e : t = i
            · simp [e]
            · simp only [e, if_false]; exact hT.at_ t ht
          case measure => simp [intOf]; omega
        | true =>
          go_wp2_with (go_at_call 29; refine Calls.mono HQ.out ?_; rintro e w2 ⟨rfl, hb2⟩)
          go_roundw
          case rel =>
            have hT := hS.out
            exact ⟨i, j + 1, E, f, rfl, by go_num, by omega, by omega, grownBy_below hT.grown hb2, hT.row.of_block (hb2.block g hT.row.lt), hT.at_, hT.sift.dropStep HOJ.out (by rw [HK.out]; rfl)⟩
          case measure => simp [intOf]; omega
      · obtain rfl : j = n := by omega
        have hltz : ¬ (j : Int) < (j : Int) := by omega
        have hcl : ∀ ty, (Builtin.clear_ #[49] ty #[.slice (some ⟨g, i, none⟩) (j - i) (cap - i)]).run Try.prog wr = .ok (.tuple #[]) (wr.setCells g i (List.replicate (j - i) (.pointer none))) := fun ty =>
          Lib.run_clear_slice wr 49 34 ty _ Try.underlying49 zero34 rfl rfl g i _ _ (by omega) (fun t ht => by rw [hT.row.cell (i := i + t) (by omega)]; rfl) (fun t ht => hT.row.frozen (i + t))
        clear hT
        go_wp2
        go_ret
        have hT := hS.out
        have hsi : Sift (keepO p) os i os.length E := by rw [hN.out]; exact hT.sift
        obtain ⟨f', hr', hf'⟩ := rowIs_sets (List.replicate (j - i) (Value.pointer none)) i wr f hT.row
        have hfl := hsi.done_len
        refine ⟨⟨i, rfl, hfl.symm, own_of_rowIs (by rw [Nat.mul_one]; exact hr') hlo (by omega) hcm (by simpa using hfl) fun t v hv => ?_⟩, grownBy_sets _ _ _ hT.grown⟩
        rw [List.getElem?_map] at hv
        obtain ⟨o, ho, rfl⟩ := Option.map_eq_some_iff.1 hv
        obtain ⟨hti, hE⟩ := hsi.done_at ho
        rw [hf' t hti, hT.at_ t (by rw [hN.out]; omega), hE]

set_option maxHeartbeats 1000000 in
theorem del28_nil (P : Nat) (w : World) :
    Calls Try.prog 28 #[.slice none 0 0, .func (.func 29) #[] #[.pointer (some ⟨P, 0, none⟩)]] w fun e w' => e = .returned (.slice none 0 0) ∧ w' = w := by
  have hI : ∀ w : World, Calls Try.prog 34 #[.slice none 0 0, .func (.func 29) #[] #[.pointer (some ⟨P, 0, none⟩)]] w fun e w' => e = .returned (.int .i64 (-1)) ∧ w' = w := fun w => by
    go_enter Try.func34, Try.ntmps34
    go_wp2
    refine wp_loop_rounds 1 ?_
    rw [rounds_succ]
    go_wp2
    go_ret
    exact ⟨rfl, rfl⟩
  have HI := show Hid _ from hI
  clear hI
  go_enter Try.func28, Try.ntmps28
  go_wp2_with fail
  refine Calls.mono (HI.out _) ?_
  rintro e w1 ⟨rfl, rfl⟩
  go_wp2
  go_ret
  exact ⟨rfl, rfl⟩

/-- slices.DeleteFunc at openings that the call owns. -/
theorem del28_any (lo P : Nat) (vp : Value) (os : List Opn) (p : ByteArray) (w : World) (hsm : os.length ≤ 1000000) (hown : w.ownsRow lo 34 1 vp os.length (os.map ptr))
    (heach : ∀ o ∈ os, IsOpn w o) (hP : w.cell? ⟨P, 0, none⟩ = some (.string p)) (hPt : TagAt w P 9) :
    Calls Try.prog 28 #[vp, .func (.func 29) #[] #[.pointer (some ⟨P, 0, none⟩)]] w fun e w' =>
      (∃ a m c, e = .returned (.slice a m c) ∧ w'.ownsRow lo 34 1 (.slice a m c) (os.filter (keepO p)).length ((os.filter (keepO p)).map ptr) ∧ (Value.slice a m c).ownBlock = vp.ownBlock) ∧ w.grownBy w' vp.ownBlock := by
  rcases hown.2 with ⟨rfl, h0⟩ | ⟨g, cap, cur, rfl, _⟩
  · have e1 : os = [] := List.eq_nil_of_length_eq_zero h0
    subst e1
    refine (del28_nil P w).mono ?_
    rintro e w' ⟨rfl, rfl⟩
    exact ⟨⟨none, 0, 0, rfl, World.ownsRow_nil _ _ _ _, rfl⟩, World.grownBy.refl _ _⟩
  · refine (del28_some g os.length cap lo P os p w rfl hsm hown heach hP hPt).mono ?_
    rintro e w' ⟨⟨m, rfl, rfl, ho⟩, hg⟩
    exact ⟨⟨_, _, _, rfl, ho, rfl⟩, hg⟩
end Go.Proofs.Qxb6616671a
