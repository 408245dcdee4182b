/-
  THE CARD OF FnCountInjectiveAndSigned: the lift of the law's walk, the row, and the card by the builder's one call.
-/
import Derived.Test.Qxb6617647aDoorTie
import Derived.Test.Qxb6617647aDoorCards
import Derived.Test.Qxb6617647aDoorLaws
import Derived.ProofKit
import Derived.Lay
import Derived.Lib.LaidTab
import Derived.SevenTiedAt
import Derived.OpenShut
import Derived.Stop.LaidErr
namespace Go.Proofs.Qxb6617647aDoor
open Go.RowKit
namespace FnCountInjectiveAndSigned
open Go.ChangeShapes Go.WideShapes Go.ChangeAt

theorem own : ownKnob Tryd.prog.godebug = none := by kernel_rfl

set_option maxRecDepth 100000 in
theorem table (W : World) (h : laidMet Tryd.prog Rows.fnCountInjectiveAndSignedRow.laid W) : Lib.TabIs Tryd.prog W powName .u64 Lib.pow10Tab := by
  have h2 : laidMet Tryd.prog ((powName, Lib.tabData .u64 Lib.pow10Tab) :: []) W := Go.laidMet.tail (Go.laidMet.tail h)
  exact Lib.tabIs_of_head (g := 0) (t := 38) (e := 27) (n := 20) (by kernel_rfl) (by kernel_rfl) Tryd.underlying38 Tryd.underlying27 (by kernel_rfl) (by kernel_rfl) h2

set_option maxRecDepth 100000 in
theorem lifted (os : Os) (started : os.Started) (H : Type) (enc : TypeId × Value → H) :
    ReturnsInHanded {} Tryd.checked os 4 .any (fun w args => (Rows.fnCountInjectiveAndSignedSpec.pre enc Tryd.prog Tryd.f4 [] false w args ∧ laidMetH Tryd.prog Rows.fnCountInjectiveAndSignedRow.laid w) ∧ sizedMet enc Tryd.prog Tryd.f4 (OpenSpec.ofChange Rows.fnCountInjectiveAndSignedSpec) false w args)
      (Rows.fnCountInjectiveAndSignedSpec.post enc Tryd.prog Tryd.f4 false true false false) := by
  refine returnsInHanded_of_change_and (C := Tryd.checked) (X := fun w _ => laidMetH Tryd.prog Rows.fnCountInjectiveAndSignedRow.laid w) (fun _ _ _ hh h => h.of_heap hh) own started (by kernel_rfl) Tryd.func4
    (ChangeSpec.witness_shaped (enc := enc) (C := Tryd.checked) (os := os) (X := fun w _ => laidMetH Tryd.prog Rows.fnCountInjectiveAndSignedRow.laid w) false (World.laidAll Tryd.prog os Rows.fnCountInjectiveAndSignedRow.laid) #[.int .i64 0, .int .i64 0] 8 (World.laidAll_os _ _ _)
      (World.shaped_of_ZipB (by kernel_rfl) (by kernel_rfl)) (by kernel_rfl) (by kernel_rfl) (by kernel_rfl)
      (by rw [MakeChecks.laidMetH_plain _ _ _ (by kernel_rfl)]; exact laidMet_laidAll _ (by kernel_rfl) (by kernel_rfl))) ?_
  intro W base args ds gs before hval0 hW _ _ hL _
  have hval : ∀ (j : Nat) t v, Tryd.f4.params[j]? = some t → args[j]? = some v → Value.okWide Tryd.prog W .any base t v := hval0
  have hW' := hW
  obtain ⟨p, q, hA0, hV, rfl, _, _⟩ := hW
  have hA : DataW.TrodAll enc Tryd.prog W 0 (fun _ => true) true Tryd.f4.params.toList args.toList ds p := hA0
  rw [Tryd.params4] at hA hval
  obtain ⟨v0, v1, d0, d1, p0, p1, rfl, rfl, rfl, h0, h1⟩ := trodAll_two hA
  obtain ⟨rfl, rfl⟩ := trodVars_none hV
  obtain ⟨x, rfl, rfl, rfl, wx⟩ := open_int Tryd.underlying3 (hval 0 3 v0 rfl rfl) h0
  obtain ⟨y, rfl, rfl, rfl, wy⟩ := open_int Tryd.underlying3 (hval 1 3 v1 rfl rfl) h1
  simp only [List.append_nil] at hW'
  have hx : -9223372036854775808 ≤ x ∧ x ≤ 9223372036854775807 := by simpa [Lit.wf, IntKind.min, IntKind.max, IntKind.signed, IntKind.bits] using wx
  have hy : -9223372036854775808 ≤ y ∧ y ≤ 9223372036854775807 := by simpa [Lit.wf, IntKind.min, IntKind.max, IntKind.signed, IntKind.bits] using wy
  rw [MakeChecks.laidMetH_plain _ _ _ (by kernel_rfl)] at hL
  refine (law4_any x y hx.1 hx.2 hy.1 hy.2 W (table W hL)).mono fun e W' ⟨he, hb⟩ => ?_
  subst he
  exact ⟨_, rfl, _, _, _, [], [], [], hW', trodAll_mk1 (shut_bool Tryd.underlying4 _), trodAll_mk2 (shut_int Tryd.underlying3 wx) (shut_int Tryd.underlying3 wy), rfl, hb.frame _, fun h => by cases h⟩

set_option maxRecDepth 100000 in
theorem holds : Rows.FnCountInjectiveAndSignedSaid :=
  OpenClaim.holds_of_wide 4 Tryd.f4 rfl rfl rfl rfl rfl rfl rfl ⟨rfl, rfl, rfl, rfl, rfl⟩ rfl rfl rfl rfl rfl (by kernel_rfl) Tryd.func4 (by kernel_rfl)
    (of_decide_eq_true (by kernel_rfl)) (by unfold Func.isWrapper; first | (rw [if_pos (by decide +kernel)]; kernel_rfl) | (rw [if_neg (by decide +kernel)]; exact ⟨rfl, rfl⟩))
    (fun os started H enc _ => lifted os started H enc)

set_option maxRecDepth 100000 in
theorem card_holds : Rows.FnCountInjectiveAndSignedCardSaid :=
  Claim7.holds_tied_plain_at .later [] [.data, .data, .data] true (true, "bfd39332ce71bb26f5a63e0ceb863706ecebf38ecbeb2068cd9f5a837bef2e20") false holds (fun _ h => by cases h) (by kernel_rfl) (fun _ h => by cases h) fnCountInjectiveAndSigned_row_tie rfl ⟨rfl, rfl⟩ (by kernel_rfl) rfl
    (fun f fn hf hfn => by
      obtain rfl : f = 4 := Option.some.inj ((show Tryd.prog.funcNamed Rows.fnCountInjectiveAndSignedRow.func = some 4 by kernel_rfl).symm.trans hf) |>.symm
      obtain rfl : fn = Tryd.f4 := (Option.some.inj (Tryd.func4.symm.trans hfn)).symm
      exact ⟨by kernel_rfl, fun j t ht => by
        rw [Tryd.params4] at ht
        have hm : t ∈ [3, 3] := by simpa using Array.mem_of_getElem? ht
        have hall : ([3, 3].all fun u => !Tryd.prog.wantsStandIn u) = true := by kernel_rfl
        exact (show Tryd.prog.wantsStandIn t = false by simpa using List.all_eq_true.1 hall t hm)⟩)
    (by kernel_rfl)
end FnCountInjectiveAndSigned

theorem injective_card : Rows.FnCountInjectiveAndSignedCardSaid := FnCountInjectiveAndSigned.card_holds
end Go.Proofs.Qxb6617647aDoor
