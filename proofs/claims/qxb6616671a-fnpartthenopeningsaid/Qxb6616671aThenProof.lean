/-
  FnPartThenOpening: THE ROW. After the frame of the guide's proof-skeleton.mjs for a law over slices.
-/
import Derived.Test.Qxb6616671aRows
import Derived.Test.Qxb6616671aOpenNums
import Derived.Test.Qxb6616671aThenEarly
import Derived.Test.Qxb6616671aThenLaw
namespace Go.Proofs.Qxb6616671a
open Go.ChangeShapes Go.WideShapes Go.ChangeAt Go.RowKit
open Go.ChangeMaps (open_string shut_string)

theorem law4_any (a1 : Option Addr) (n1 c1 : Nat) (s1 : List ByteArray) (a2 : Option Addr) (n2 c2 : Nat) (z2 : List Int) (p : ByteArray) (pr : Int) (w : World) (h1 : HasStrs w a1 n1 c1 s1) (h2 : HasNums w a2 n2 c2 z2) (hp : p.size ≤ maxLen) :
    Calls Try.prog 4 #[.slice a1 n1 c1, .slice a2 n2 c2, .string p, .int .u64 pr] w fun e w' => e = .returned (.bool true) ∧ Below w.heap.size w w' := by
  by_cases g1 : 65536 < n1
  · exact law4_early a1 n1 c1 s1 a2 n2 c2 z2 p pr w h1 h2 hp (.inl g1)
  by_cases g2 : 65536 < n2
  · exact law4_early a1 n1 c1 s1 a2 n2 c2 z2 p pr w h1 h2 hp (.inr (.inl g2))
  by_cases g3 : 1048576 < p.size
  · exact law4_early a1 n1 c1 s1 a2 n2 c2 z2 p pr w h1 h2 hp (.inr (.inr (.inl g3)))
  by_cases g4 : 1048576 < (p.size : Int) + 8 * n2
  · exact law4_early a1 n1 c1 s1 a2 n2 c2 z2 p pr w h1 h2 hp (.inr (.inr (.inr g4)))
  exact law4_main a1 n1 c1 s1 a2 n2 c2 z2 p pr w h1 h2 hp g1 g2 g3 g4

set_option maxRecDepth 100000 in
theorem pto_lifted (os : Os) (started : os.Started) (H : Type) (enc : TypeId × Value → H) :
    ReturnsInHanded {} Try.checked os 4 .any (Rows.fnPartThenOpeningSpec.pre6 enc Try.prog Try.f4 Rows.fnPartThenOpeningRow.domain false) (Rows.fnPartThenOpeningSpec.post enc Try.prog Try.f4 false true false false) := by
  refine returnsInHanded_of_change (C := Try.checked) own started (by kernel_rfl) Try.func4
    (ChangeSpec.witness6 (enc := enc) (C := Try.checked) false ⟨#[], #[.slice none 0 0, .slice none 0 0, .string ByteArray.empty, .int .u64 0], []⟩ 8 (by kernel_rfl) (by kernel_rfl) (by kernel_rfl) (by kernel_rfl)) ?_
  intro W base args ds gs before hval0 hW hcnd _
  have hval : ∀ (j : Nat) t v, Try.f4.params[j]? = some t → args[j]? = some v → Value.okWide Try.prog W .any base t v := hval0
  have hW' := hW
  obtain ⟨p, q, hA0, hV, rfl, hfz, hnd⟩ := hW
  have hA : DataW.TrodAll enc Try.prog W 0 (fun _ => true) true Try.f4.params.toList args.toList ds p := hA0
  rw [Try.params4] at hA hval
  obtain ⟨v0, vs0, d0, ds0, p0, q0, hargs, rfl, rfl, h0, r0⟩ := trodAll_cons hA
  obtain ⟨v1, vs1, d1, ds1, p1, q1, rfl, rfl, rfl, h1, r1⟩ := trodAll_cons r0
  obtain ⟨v2, vs2, d2, ds2, p2, q2, rfl, rfl, rfl, h2, r2⟩ := trodAll_cons r1
  obtain ⟨v3, vs3, d3, ds3, p3, q3, rfl, rfl, rfl, h3, r3⟩ := trodAll_cons r2
  obtain ⟨rfl, rfl, rfl⟩ := trodAll_nil r3
  obtain rfl : args = #[v0, v1, v2, v3] := by cases args; simp_all
  obtain ⟨rfl, rfl⟩ := trodVars_none hV
  obtain ⟨a0, len0, cap0, rfl⟩ := okWide_slice Try.underlying22 (hval 0 22 v0 rfl rfl)
  have k0 := h0
  have lt0 : ∀ x ∈ p0, x.block < W.heap.size := by obtain ⟨m, hm⟩ := k0; exact DataW.trod_lt m _ _ _ hm
  obtain ⟨z0, w0⟩ : ∃ zs, HasStrs W a0 len0 cap0 zs := by obtain ⟨fuel, hf⟩ := h0; exact strs_of hf
  obtain ⟨a1, len1, cap1, rfl⟩ := okWide_slice Try.underlying23 (hval 1 23 v1 rfl rfl)
  have k1 := h1
  have lt1 : ∀ x ∈ p1, x.block < W.heap.size := by obtain ⟨m, hm⟩ := k1; exact DataW.trod_lt m _ _ _ hm
  obtain ⟨z1, w1⟩ : ∃ zs, HasNums W a1 len1 cap1 zs := by obtain ⟨fuel, hf⟩ := h1; exact nums_of hf
  obtain ⟨a2, rfl, rfl, rfl, w2⟩ := open_string Try.underlying9 (hval 2 9 v2 rfl rfl) h2
  obtain ⟨a3, rfl, rfl, rfl, w3⟩ := open_int Try.underlying37 (hval 3 37 v3 rfl rfl) h3
  clear hA0 hval0
  refine (law4_any a0 len0 cap0 z0 a1 len1 cap1 z1 a2 a3 W w0 w1 w2).mono fun e W' ⟨he, bel⟩ => ?_
  subst he
  exact ⟨_, rfl, _, _, _, [], _, [], hW', trodAll_mk1 (shut_bool Try.underlying4 _), (trodAll_cons_mk (Below.trod laidOut (by kernel_rfl) (of_decide_eq_true (by kernel_rfl)) k0 bel lt0) (trodAll_cons_mk (Below.trod laidOut (by kernel_rfl) (of_decide_eq_true (by kernel_rfl)) k1 bel lt1) (trodAll_cons_mk (shut_string Try.underlying9 w2) (trodAll_cons_mk (shut_int Try.underlying37 w3) trodAll_mk0)))), rfl, bel.frame _, fun h => by cases h⟩

theorem pto_over : Rows.fnPartThenOpeningRow.holds Try.pinned (OpenSpec.ofChange Rows.fnPartThenOpeningSpec) :=
  OpenClaim.holds_of_wide 4 Try.f4 rfl rfl rfl rfl rfl rfl rfl ⟨rfl, rfl, rfl, rfl, rfl⟩ rfl rfl rfl rfl rfl (by kernel_rfl) Try.func4 (by kernel_rfl)
    (of_decide_eq_true (by kernel_rfl)) (by unfold Func.isWrapper; first | (rw [if_pos (by decide +kernel)]; kernel_rfl) | (rw [if_neg (by decide +kernel)]; exact ⟨rfl, rfl⟩))
    (fun os started H enc _ => pto_lifted os started H enc)

/-- THE STATEMENT -/
theorem pto_proved : Rows.FnPartThenOpeningSaid := pto_over
end Go.Proofs.Qxb6616671a
