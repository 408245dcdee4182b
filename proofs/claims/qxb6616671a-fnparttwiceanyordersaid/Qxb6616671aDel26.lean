/-
  slices.DeleteFunc at out-links, over Part's first predicate.
-/
import Derived.Test.Qxb6616671aPreds
import Derived.Test.Qxb6616671aSift
import Derived.Lib.SliceRun
namespace Go.Proofs.Qxb6616671a
open Go.RowKit

/-- Is the out-link kept when the member parts from p? -/
def keepS (p : ByteArray) (s : ByteArray) : Bool := !isP p s

theorem zero60 (w : World) : (zeroValue 60).run Try.prog w = .ok (.agg #[.string ByteArray.empty, .bool false, .slice none 0 0, .int .i64 0]) w := by kernel_rfl

/-- 'clear(s)', s a slice of n > 0 elements of four cells each. -/
theorem run_clear_k {P : Program} (w : World) (t e ty : TypeId) (z : Value) (k : Nat) (ht : P.underlying t = some (.slice e)) (hv : ∀ w, (zeroValue e).run P w = .ok z w) (hk : z.cells.size = k) (h1 : ∀ n, ∀ v ∈ (Builtin.zeroCells z.cells n).toList, v.oneCell' = true) (b o n c : Nat) (hn : 0 < n)
    (hc : ∀ j, j < n * k → (w.cell? ⟨b, o + j, none⟩).isSome = true) (hf : ∀ j, j < n * k → w.frozen? ⟨b, o + j, none⟩ = false) :
    (Builtin.clear_ #[t] ty #[.slice (some ⟨b, o, none⟩) n c]).run P w = .ok (.tuple #[]) (w.setCells b o (Builtin.zeroCells z.cells n).toList) := by
  have hl : (Builtin.zeroCells z.cells n).toList.length = n * k := by rw [Array.length_toList, size_zeroCells, hk]
  have hst := run_storeCells_cells (P := P) b o (Builtin.zeroCells z.cells n).toList 0 w (by rw [hl]; simpa using hc) (by rw [hl]; simpa using hf) (h1 n)
  simp only [Nat.add_zero] at hst
  obtain ⟨m, rfl⟩ : ∃ m, n = m + 1 := ⟨n - 1, by omega⟩
  simp [Builtin.clear_, run_underlying ht, hv, hst]

theorem zero_one (n : Nat) : ∀ v ∈ (Builtin.zeroCells (Value.agg #[.string ByteArray.empty, .bool false, .slice none 0 0, .int .i64 0]).cells n).toList, v.oneCell' = true := by
  intro v hv
  simp only [Builtin.zeroCells, Value.cells, Array.toList_map, List.mem_map] at hv
  obtain ⟨i, _, rfl⟩ := hv
  have h : i % 4 < 4 := Nat.mod_lt _ (by decide)
  show (#[Value.string ByteArray.empty, .bool false, .slice none 0 0, .int .i64 0][i % 4]!).oneCell' = true
  match i % 4, h with
  | 0, _ => rfl
  | 1, _ => rfl
  | 2, _ => rfl
  | 3, _ => rfl

/-- What is known of the memory while the row is sifted. -/
structure SiftingS (w wr : World) (g cap : Nat) (os : List ByteArray) (i j : Nat) (p : ByteArray) (E : Nat → ByteArray) (f : Nat → Value) : Prop where
  grown : w.grownBy wr (some g)
  row : wr.rowIs g 60 (cap * 4) f
  at_ : ∀ t, t < os.length → f (t * 4) = .string (E t) ∧ f (t * 4 + 1) = .bool false ∧ f (t * 4 + 2) = .slice none 0 0 ∧ f (t * 4 + 3) = .int .i64 0
  sift : Sift (keepS p) os i j E

/-- The four cells of element t in the row of all. -/
theorem flat_at (os : List ByteArray) (t : Nat) (s : ByteArray) (h : os[t]? = some s) : (os.flatMap outCells)[t * 4]? = some (.string s) ∧ (os.flatMap outCells)[t * 4 + 1]? = some (.bool false) ∧ (os.flatMap outCells)[t * 4 + 2]? = some (.slice none 0 0) ∧ (os.flatMap outCells)[t * 4 + 3]? = some (.int .i64 0) := by
  induction os generalizing t with
  | nil => simp at h
  | cons x l ih =>
    cases t with
    | zero =>
      have : x = s := by simpa using h
      subst this
      simp [outCells]
    | succ t =>
      have := ih t (by simpa using h)
      have e : ∀ c, (t + 1) * 4 + c = (t * 4 + c) + 4 := fun c => by omega
      have e0 : (t + 1) * 4 = (t * 4) + 4 := by omega
      rw [e 1, e 2, e 3, e0]
      simpa [outCells, List.flatMap_cons] using this
theorem flat_len (os : List ByteArray) : (os.flatMap outCells).length = os.length * 4 := by
  induction os with
  | nil => simp
  | cons x l ih => simp [outCells, List.flatMap_cons] at ih ⊢; omega
/-- A cell of the row of all is one of some element's four. -/
theorem flat_inv (os : List ByteArray) (k : Nat) (v : Value) (h : (os.flatMap outCells)[k]? = some v) : ∃ t s, os[t]? = some s ∧ ((k = t * 4 ∧ v = .string s) ∨ (k = t * 4 + 1 ∧ v = .bool false) ∨ (k = t * 4 + 2 ∧ v = .slice none 0 0) ∨ (k = t * 4 + 3 ∧ v = .int .i64 0)) := by
  have hk : k < os.length * 4 := by rw [← flat_len]; exact (List.getElem?_eq_some_iff.1 h).1
  have ht : k / 4 < os.length := by omega
  obtain ⟨s, hs⟩ : ∃ s, os[k / 4]? = some s := ⟨_, List.getElem?_eq_getElem ht⟩
  obtain ⟨h0, h1, h2, h3⟩ := flat_at os _ s hs
  refine ⟨k / 4, s, hs, ?_⟩
  have hc : k = k / 4 * 4 ∨ k = k / 4 * 4 + 1 ∨ k = k / 4 * 4 + 2 ∨ k = k / 4 * 4 + 3 := by omega
  rcases hc with e | e | e | e
  · rw [← e, h] at h0; exact .inl ⟨e, by simpa using h0⟩
  · rw [← e, h] at h1; exact .inr (.inl ⟨e, by simpa using h1⟩)
  · rw [← e, h] at h2; exact .inr (.inr (.inl ⟨e, by simpa using h2⟩))
  · rw [← e, h] at h3; exact .inr (.inr (.inr ⟨e, by simpa using h3⟩))

set_option maxHeartbeats 4000000 in
theorem del26_some (g n cap lo P : Nat) (os : List ByteArray) (p : ByteArray) (w : World) (hn : os.length = n) (hsm : n ≤ 1000000) (hown : w.ownsRow lo 60 4 (.slice (some ⟨g, 0, none⟩) n cap) n (os.flatMap outCells))
    (hP : w.cell? ⟨P, 0, none⟩ = some (.string p)) (hPt : TagAt w P 9) :
    Calls Try.prog 26 #[.slice (some ⟨g, 0, none⟩) n cap, .func (.func 27) #[] #[.pointer (some ⟨P, 0, none⟩)]] w fun e w' =>
      (∃ m, e = .returned (.slice (some ⟨g, 0, none⟩) m cap) ∧ m = (os.filter (keepS p)).length ∧ w'.ownsRow lo 60 4 (.slice (some ⟨g, 0, none⟩) m cap) m ((os.filter (keepS p)).flatMap outCells)) ∧ w.grownBy w' (some g) := by
  have hN : Hid (os.length = n) := hn
  obtain ⟨f0, hrow0, hf0, hnc, hcm, hlo⟩ := rowIs_of_own hown
  have htg : TagAt w g 60 := ownsRow_tag hown rfl
  have hI := idx33_any (some ⟨g, 0, none⟩) n cap os p P w hn hsm (fun t o ho => by
    have ht := (List.getElem?_eq_some_iff.1 ho).1
    obtain ⟨q0, q1, q2, q3⟩ := flat_at os t o ho
    exact ⟨g, rfl, by rw [hrow0.cell (i := t * 4) (by omega), hf0 _ _ q0], by rw [hrow0.cell (i := t * 4 + 1) (by omega), hf0 _ _ q1], by rw [hrow0.cell (i := t * 4 + 2) (by omega), hf0 _ _ q2], by rw [hrow0.cell (i := t * 4 + 3) (by omega), hf0 _ _ q3]⟩) hP
  have HI := show Hid _ from hI
  have HPP := show Hid _ from hP
  have HOWN := show Hid _ from hown
  have HF := show Hid _ from (⟨hrow0, hf0⟩ : _ ∧ _)
  clear hn hI hP hown hrow0 hf0
  go_enter Try.func26, Try.ntmps26
  go_wp2_with fail
  refine Calls.mono HI.out ?_
  rintro e w1 ⟨⟨r, rfl, hr⟩, hb1⟩
  have hg1 : w.grownBy w1 (some g) := grownBy_below (World.grownBy.refl _ _) hb1
  rcases hr with ⟨rfl, hall⟩ | ⟨t0, rfl, ht0, hyes, hno⟩
  · -- nothing is struck
    go_wp2
    go_ret
    have e1 : os.filter (keepS p) = os := by
      rw [List.filter_eq_self]
      intro o ho
      obtain ⟨t, ht, rfl⟩ := List.getElem_of_mem ho
      have := hall t (by simpa using ht)
      simp [List.getD_eq_getElem?_getD, ht] at this
      simp [keepS, this]
    rw [e1]
    exact ⟨⟨n, rfl, hN.out.symm, ownsRow_same HOWN.out fun k hk => by
      obtain rfl : g = k := by simpa [Value.ownBlock] using hk
      exact hb1.block g htg.lt⟩, hg1⟩
  · have hlt0 : t0 < n := by rw [← hN.out]; simpa using ht0
    have hstart : SiftingS w w1 g cap os t0 (t0 + 1) p (fun t => os.getD t ByteArray.empty) f0 := by
      refine ⟨hg1, HF.out.1.of_block (hb1.block g htg.lt), fun t ht => ?_, Sift.start _ (x := os[t0]'(by rw [hN.out]; exact hlt0)) (List.getElem?_eq_getElem _) ?_ fun t y ht hy => ?_⟩
      · obtain ⟨q0, q1, q2, q3⟩ := flat_at os t _ (List.getElem?_eq_getElem ht)
        refine ⟨?_, HF.out.2 _ _ q1, HF.out.2 _ _ q2, HF.out.2 _ _ q3⟩
        rw [HF.out.2 _ _ q0]
        simp [List.getD_eq_getElem?_getD, ht]
      · have h : t0 < os.length := by rw [hN.out]; exact hlt0
        simp [List.getD_eq_getElem?_getD, h] at hyes
        simp [keepS, hyes]
      · have := hno t ht
        simp [List.getD_eq_getElem?_getD, hy] at this
        simp [keepS, this]
    have HS := show Hid _ from hstart
    have hne1 : ((t0 : Int) == -1) = false := beq_eq_false_iff_ne.2 (by omega)
    clear hstart hyes hno ht0 HI hb1 hg1
    go_wp2
    go_loopw [5, 6, 7] (fun s5 s6 _ wr => ∃ (i j : Nat) (E : Nat → ByteArray) (f : Nat → Value), s5 = .int .i64 i ∧ s6 = .int .i64 j ∧ i < j ∧ j ≤ n ∧ Hid (SiftingS w wr g cap os i j p E f)) (fun _ s6 _ _ => n - (intOf s6).toNat)
    case atStart => exact ⟨t0, t0 + 1, _, _, rfl, by go_num, by omega, by omega, HS.out⟩
    case round =>
      obtain ⟨i, j, E, f, rfl, rfl, hij, hjn, hS⟩ := hrel
      have hT := hS.out
      by_cases hlt : j < n
      · have hjl : j < os.length := by rw [hN.out]; exact hlt
        have hoj : os[j]? = some os[j] := List.getElem?_eq_getElem hjl
        generalize os[j] = o at hoj
        have hEj : E j = o := hT.sift.high j o (Nat.le_refl _) hoj
        obtain ⟨q0, q1, q2, q3⟩ := hT.at_ j hjl
        have cj0 := hT.row.cell (i := j * 4) (by omega)
        have cj1 := hT.row.cell (i := j * 4 + 1) (by omega)
        have cj2 := hT.row.cell (i := j * 4 + 2) (by omega)
        have cj3 := hT.row.cell (i := j * 4 + 3) (by omega)
        rw [q0, hEj] at cj0
        rw [q1] at cj1
        rw [q2] at cj2
        rw [q3] at cj3
        clear q0 q1 q2 q3
        have ci0 := hT.row.cell (i := i * 4) (by omega)
        have ci1 := hT.row.cell (i := i * 4 + 1) (by omega)
        have ci2 := hT.row.cell (i := i * 4 + 2) (by omega)
        have ci3 := hT.row.cell (i := i * 4 + 3) (by omega)
        have hgl := hT.row.lt
        have hfr := hT.row.frozen
        have hPr : wr.cell? ⟨P, 0, none⟩ = some (.string p) := hT.grown.cell HPP.out (fun e => hPt.ne htg (by decide) (by simpa using e))
        have hq : ∀ W, Below wr.heap.size wr W → Calls Try.prog 27 #[.agg #[.string o, .bool false, .slice none 0 0, .int .i64 0], .pointer (some ⟨P, 0, none⟩)] W fun e w' => e = .returned (.bool (isP p o)) ∧ Below W.heap.size W w' := fun W hW => part1_any o p P W (cell_later hW hPr)
        have hk : keepS p o = !isP p o := rfl
        generalize isP p o = r at hq hk
        have HQ := show Hid _ from hq
        have HK := show Hid _ from hk
        have HOJ := show Hid _ from hoj
        have HFR := show Hid _ from hfr
        generalize f (i * 4) = old0 at ci0
        generalize f (i * 4 + 1) = old1 at ci1
        generalize f (i * 4 + 2) = old2 at ci2
        generalize f (i * 4 + 3) = old3 at ci3
        clear hq hk hoj hEj hPr hT hfr
        have hltz : (j : Int) < (n : Int) := by omega
        cases r with
        | false =>
          go_wp2_with (go_at_call 27; refine Calls.mono (HQ.out _ ((Below.refl _ _).alloc (Nat.le_refl _) _)) ?_; rintro e w2 ⟨rfl, hb2⟩; have hb3 : Below wr.heap.size wr w2 := ((Below.refl _ _).alloc (Nat.le_refl _) _).trans (hb2.mono (by simp)); have d0 := cell_later hb3 ci0; have d1 := cell_later hb3 ci1; have d2 := cell_later hb3 ci2; have d3 := cell_later hb3 ci3; have r0 := (hb3.frozen (p := ⟨g, i * 4, none⟩) hgl).trans (HFR.out (i * 4)); have r1 := (hb3.frozen (p := ⟨g, i * 4 + 1, none⟩) hgl).trans (HFR.out (i * 4 + 1)); have r2 := (hb3.frozen (p := ⟨g, i * 4 + 2, none⟩) hgl).trans (HFR.out (i * 4 + 2)); have r3 := (hb3.frozen (p := ⟨g, i * 4 + 3, none⟩) hgl).trans (HFR.out (i * 4 + 3)); have v0 : w2.cell? ⟨wr.heap.size, 0, none⟩ = some (.string o) := cell_later hb2 (by simp); have v1 : w2.cell? ⟨wr.heap.size, 1, none⟩ = some (.bool false) := cell_later hb2 (by simp); have v2 : w2.cell? ⟨wr.heap.size, 2, none⟩ = some (.slice none 0 0) := cell_later hb2 (by simp); have v3 : w2.cell? ⟨wr.heap.size, 3, none⟩ = some (.int .i64 0) := cell_later hb2 (by simp))
          go_roundw
          case rel =>
            have hT := hS.out
            refine ⟨i + 1, j + 1, (fun t => if t = i then o else E t), _, by go_num, by go_num, by omega, by omega, grownBy_set (grownBy_set (grownBy_set (grownBy_set (grownBy_below hT.grown hb3) _ _) _ _) _ _) _ _, ((((hT.row.of_block (hb3.block g hT.row.lt)).set (i * 4) _).set (i * 4 + 1) _).set (i * 4 + 2) _).set (i * 4 + 3) _, fun t ht => ?_, hT.sift.keepStep HOJ.out (by rw [HK.out]; rfl)⟩
            by_cases e : t = i
            · subst e
              simp
            · have hq := hT.at_ t ht
              have n1 : t * 4 ≠ i * 4 := by omega
              have n2 : t * 4 ≠ i * 4 + 1 := by omega
              have n3 : t * 4 ≠ i * 4 + 2 := by omega
              have n4 : t * 4 ≠ i * 4 + 3 := by omega
              have m1 : t * 4 + 1 ≠ i * 4 := by omega
              have m2 : t * 4 + 1 ≠ i * 4 + 1 := by omega
              have m3 : t * 4 + 1 ≠ i * 4 + 2 := by omega
              have m4 : t * 4 + 1 ≠ i * 4 + 3 := by omega
              have l1 : t * 4 + 2 ≠ i * 4 := by omega
              have l2 : t * 4 + 2 ≠ i * 4 + 1 := by omega
              have l3 : t * 4 + 2 ≠ i * 4 + 2 := by omega
              have l4 : t * 4 + 2 ≠ i * 4 + 3 := by omega
              have k1 : t * 4 + 3 ≠ i * 4 := by omega
              have k2 : t * 4 + 3 ≠ i * 4 + 1 := by omega
              have k3 : t * 4 + 3 ≠ i * 4 + 2 := by omega
              have k4 : t * 4 + 3 ≠ i * 4 + 3 := by omega
              simp only [if_neg n1, if_neg n2, if_neg n3, if_neg n4, if_neg m1, if_neg m2, if_neg m3, if_neg m4, if_neg l1, if_neg l2, if_neg l3, if_neg l4, if_neg k1, if_neg k2, if_neg k3, if_neg k4, if_neg e]
              exact hq
          case measure => simp [intOf]; omega
        | true =>
          go_wp2_with (go_at_call 27; refine Calls.mono (HQ.out _ ((Below.refl _ _).alloc (Nat.le_refl _) _)) ?_; rintro e w2 ⟨rfl, hb2⟩; have hb3 : Below wr.heap.size wr w2 := ((Below.refl _ _).alloc (Nat.le_refl _) _).trans (hb2.mono (by simp)))
          go_roundw
          case rel =>
            have hT := hS.out
            exact ⟨i, j + 1, E, f, rfl, by go_num, by omega, by omega, grownBy_below hT.grown hb3, hT.row.of_block (hb3.block g hT.row.lt), hT.at_, hT.sift.dropStep HOJ.out (by rw [HK.out]; rfl)⟩
          case measure => simp [intOf]; omega
      · obtain rfl : j = n := by omega
        have hltz : ¬ (j : Int) < (j : Int) := by omega
        have hcl : ∀ ty, (Builtin.clear_ #[47] ty #[.slice (some ⟨g, i * 4, none⟩) (j - i) (cap - i)]).run Try.prog wr = .ok (.tuple #[]) (wr.setCells g (i * 4) (Builtin.zeroCells #[.string ByteArray.empty, .bool false, .slice none 0 0, .int .i64 0] (j - i)).toList) := fun ty =>
          run_clear_k wr 47 60 ty _ 4 Try.underlying47 zero60 rfl zero_one g (i * 4) _ _ (by omega) (fun t ht => by rw [hT.row.cell (i := i * 4 + t) (by omega)]; rfl) (fun t ht => hT.row.frozen (i * 4 + t))
        clear hT
        go_wp2
        go_ret
        have hT := hS.out
        have hsi : Sift (keepS p) os i os.length E := by rw [hN.out]; exact hT.sift
        obtain ⟨f', hr', hf'⟩ := rowIs_sets (Builtin.zeroCells #[.string ByteArray.empty, .bool false, .slice none 0 0, .int .i64 0] (j - i)).toList (i * 4) wr f hT.row
        have hfl := hsi.done_len
        refine ⟨⟨i, rfl, hfl.symm, own_of_rowIs hr' hlo (by omega) hcm (by rw [flat_len, hfl]) fun k v hv => ?_⟩, grownBy_sets _ _ _ hT.grown⟩
        obtain ⟨t, s, hs, hc⟩ := flat_inv _ k v hv
        obtain ⟨hti, hE⟩ := hsi.done_at hs
        obtain ⟨q0, q1, q2, q3⟩ := hT.at_ t (by rw [hN.out]; omega)
        rw [hE] at q0
        rw [hf' k (by omega)]
        rcases hc with ⟨rfl, rfl⟩ | ⟨rfl, rfl⟩ | ⟨rfl, rfl⟩ | ⟨rfl, rfl⟩
        · exact q0
        · exact q1
        · exact q2
        · exact q3

set_option maxHeartbeats 1000000 in
theorem del26_nil (P : Nat) (w : World) :
    Calls Try.prog 26 #[.slice none 0 0, .func (.func 27) #[] #[.pointer (some ⟨P, 0, none⟩)]] w fun e w' => e = .returned (.slice none 0 0) ∧ w' = w := by
  have hI : ∀ w : World, Calls Try.prog 33 #[.slice none 0 0, .func (.func 27) #[] #[.pointer (some ⟨P, 0, none⟩)]] w fun e w' => e = .returned (.int .i64 (-1)) ∧ w' = w := fun w => by
    go_enter Try.func33, Try.ntmps33
    go_wp2
    refine wp_loop_rounds 1 ?_
    rw [rounds_succ]
    go_wp2
    go_ret
    exact ⟨rfl, rfl⟩
  have HI := show Hid _ from hI
  clear hI
  go_enter Try.func26, Try.ntmps26
  go_wp2_with fail
  refine Calls.mono (HI.out _) ?_
  rintro e w1 ⟨rfl, rfl⟩
  go_wp2
  go_ret
  exact ⟨rfl, rfl⟩

/-- slices.DeleteFunc at out-links that the call owns. -/
theorem del26_any (lo P : Nat) (vo : Value) (os : List ByteArray) (p : ByteArray) (w : World) (hsm : os.length ≤ 1000000) (hown : w.ownsRow lo 60 4 vo os.length (os.flatMap outCells))
    (hP : w.cell? ⟨P, 0, none⟩ = some (.string p)) (hPt : TagAt w P 9) :
    Calls Try.prog 26 #[vo, .func (.func 27) #[] #[.pointer (some ⟨P, 0, none⟩)]] w fun e w' =>
      (∃ a m c, e = .returned (.slice a m c) ∧ w'.ownsRow lo 60 4 (.slice a m c) (os.filter (keepS p)).length ((os.filter (keepS p)).flatMap outCells) ∧ (Value.slice a m c).ownBlock = vo.ownBlock) ∧ w.grownBy w' vo.ownBlock := by
  rcases hown.2 with ⟨rfl, h0⟩ | ⟨g, cap, cur, rfl, _⟩
  · have e1 : os = [] := List.eq_nil_of_length_eq_zero h0
    subst e1
    refine (del26_nil P w).mono ?_
    rintro e w' ⟨rfl, rfl⟩
    exact ⟨⟨none, 0, 0, rfl, World.ownsRow_nil _ _ _ _, rfl⟩, World.grownBy.refl _ _⟩
  · refine (del26_some g os.length cap lo P os p w rfl hsm hown hP hPt).mono ?_
    rintro e w' ⟨⟨m, rfl, rfl, ho⟩, hg⟩
    exact ⟨⟨_, _, _, rfl, ho, rfl⟩, hg⟩
end Go.Proofs.Qxb6616671a
