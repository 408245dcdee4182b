/-
  FnPartTwiceAnyOrder: THE ROW. After the frame of the guide's proof-skeleton.mjs for a law over slices.
-/
import Derived.Test.Qxb6616671aRows
import Derived.Test.Qxb6616671aOpenNums
import Derived.Test.Qxb6616671aTwiceEarly
import Derived.Test.Qxb6616671aTwiceLaw
namespace Go.Proofs.Qxb6616671a
open Go.ChangeShapes Go.WideShapes Go.ChangeAt Go.RowKit
open Go.ChangeMaps (open_string shut_string)

theorem law3_any (a0 : Option Addr) (n0 c0 : Nat) (s0 : List ByteArray) (a1 : Option Addr) (n1 c1 : Nat) (s1 : List ByteArray) (a2 : Option Addr) (n2 c2 : Nat) (z2 : List Int) (p q : ByteArray) (w : World) (h0 : HasStrs w a0 n0 c0 s0) (h1 : HasStrs w a1 n1 c1 s1) (h2 : HasNums w a2 n2 c2 z2) (hp : p.size ≤ maxLen) (hq : q.size ≤ maxLen) :
    Calls Try.prog 3 #[.slice a0 n0 c0, .slice a1 n1 c1, .slice a2 n2 c2, .string p, .string q] w fun e w' => e = .returned (.bool true) ∧ Below w.heap.size w w' := by
  by_cases g : 65536 < n0 ∨ 65536 < n1 ∨ 65536 < n2 ∨ 1048576 < p.size ∨ 1048576 < q.size ∨ 1048576 < (p.size : Int) + q.size + 8 * n2
  · exact law3_early a0 n0 c0 s0 a1 n1 c1 s1 a2 n2 c2 z2 p q w h0 h1 h2 hp hq g
  · simp only [not_or] at g
    exact law3_main a0 n0 c0 s0 a1 n1 c1 s1 a2 n2 c2 z2 p q w h0 h1 h2 hp hq g.1 g.2.1 g.2.2.1 g.2.2.2.1 g.2.2.2.2.1 g.2.2.2.2.2

set_option maxRecDepth 100000 in
theorem twice_lifted (os : Os) (started : os.Started) (H : Type) (enc : TypeId × Value → H) :
    ReturnsInHanded {} Try.checked os 3 .any (Rows.fnPartTwiceAnyOrderSpec.pre6 enc Try.prog Try.f3 Rows.fnPartTwiceAnyOrderRow.domain false) (Rows.fnPartTwiceAnyOrderSpec.post enc Try.prog Try.f3 false true false false) := by
  refine returnsInHanded_of_change (C := Try.checked) own started (by kernel_rfl) Try.func3
    (ChangeSpec.witness6 (enc := enc) (C := Try.checked) false ⟨#[], #[.slice none 0 0, .slice none 0 0, .slice none 0 0, .string ByteArray.empty, .string ByteArray.empty], []⟩ 8 (by kernel_rfl) (by kernel_rfl) (by kernel_rfl) (by kernel_rfl)) ?_
  intro W base args ds gs before hval0 hW hcnd _
  have hval : ∀ (j : Nat) t v, Try.f3.params[j]? = some t → args[j]? = some v → Value.okWide Try.prog W .any base t v := hval0
  have hW' := hW
  obtain ⟨p, q, hA0, hV, rfl, hfz, hnd⟩ := hW
  have hA : DataW.TrodAll enc Try.prog W 0 (fun _ => true) true Try.f3.params.toList args.toList ds p := hA0
  rw [Try.params3] at hA hval
  obtain ⟨v0, vs0, d0, ds0, p0, q0, hargs, rfl, rfl, h0, r0⟩ := trodAll_cons hA
  obtain ⟨v1, vs1, d1, ds1, p1, q1, rfl, rfl, rfl, h1, r1⟩ := trodAll_cons r0
  obtain ⟨v2, vs2, d2, ds2, p2, q2, rfl, rfl, rfl, h2, r2⟩ := trodAll_cons r1
  obtain ⟨v3, vs3, d3, ds3, p3, q3, rfl, rfl, rfl, h3, r3⟩ := trodAll_cons r2
  obtain ⟨v4, vs4, d4, ds4, p4, q4, rfl, rfl, rfl, h4, r4⟩ := trodAll_cons r3
  obtain ⟨rfl, rfl, rfl⟩ := trodAll_nil r4
  obtain rfl : args = #[v0, v1, v2, v3, v4] := by cases args; simp_all
  obtain ⟨rfl, rfl⟩ := trodVars_none hV
  obtain ⟨a0, len0, cap0, rfl⟩ := okWide_slice Try.underlying22 (hval 0 22 v0 rfl rfl)
  have k0 := h0
  have lt0 : ∀ x ∈ p0, x.block < W.heap.size := by obtain ⟨m, hm⟩ := k0; exact DataW.trod_lt m _ _ _ hm
  obtain ⟨z0, w0⟩ : ∃ zs, HasStrs W a0 len0 cap0 zs := by obtain ⟨fuel, hf⟩ := h0; exact strs_of hf
  obtain ⟨a1, len1, cap1, rfl⟩ := okWide_slice Try.underlying22 (hval 1 22 v1 rfl rfl)
  have k1 := h1
  have lt1 : ∀ x ∈ p1, x.block < W.heap.size := by obtain ⟨m, hm⟩ := k1; exact DataW.trod_lt m _ _ _ hm
  obtain ⟨z1, w1⟩ : ∃ zs, HasStrs W a1 len1 cap1 zs := by obtain ⟨fuel, hf⟩ := h1; exact strs_of hf
  obtain ⟨a2, len2, cap2, rfl⟩ := okWide_slice Try.underlying23 (hval 2 23 v2 rfl rfl)
  have k2 := h2
  have lt2 : ∀ x ∈ p2, x.block < W.heap.size := by obtain ⟨m, hm⟩ := k2; exact DataW.trod_lt m _ _ _ hm
  obtain ⟨z2, w2⟩ : ∃ zs, HasNums W a2 len2 cap2 zs := by obtain ⟨fuel, hf⟩ := h2; exact nums_of hf
  obtain ⟨a3, rfl, rfl, rfl, w3⟩ := open_string Try.underlying9 (hval 3 9 v3 rfl rfl) h3
  obtain ⟨a4, rfl, rfl, rfl, w4⟩ := open_string Try.underlying9 (hval 4 9 v4 rfl rfl) h4
  clear hA0 hval0
  refine (law3_any a0 len0 cap0 z0 a1 len1 cap1 z1 a2 len2 cap2 z2 a3 a4 W w0 w1 w2 w3 w4).mono fun e W' ⟨he, bel⟩ => ?_
  subst he
  exact ⟨_, rfl, _, _, _, [], _, [], hW', trodAll_mk1 (shut_bool Try.underlying4 _), (trodAll_cons_mk (Below.trod laidOut (by kernel_rfl) (of_decide_eq_true (by kernel_rfl)) k0 bel lt0) (trodAll_cons_mk (Below.trod laidOut (by kernel_rfl) (of_decide_eq_true (by kernel_rfl)) k1 bel lt1) (trodAll_cons_mk (Below.trod laidOut (by kernel_rfl) (of_decide_eq_true (by kernel_rfl)) k2 bel lt2) (trodAll_cons_mk (shut_string Try.underlying9 w3) (trodAll_cons_mk (shut_string Try.underlying9 w4) trodAll_mk0))))), rfl, bel.frame _, fun h => by cases h⟩

theorem twice_over : Rows.fnPartTwiceAnyOrderRow.holds Try.pinned (OpenSpec.ofChange Rows.fnPartTwiceAnyOrderSpec) :=
  OpenClaim.holds_of_wide 3 Try.f3 rfl rfl rfl rfl rfl rfl rfl ⟨rfl, rfl, rfl, rfl, rfl⟩ rfl rfl rfl rfl rfl (by kernel_rfl) Try.func3 (by kernel_rfl)
    (of_decide_eq_true (by kernel_rfl)) (by unfold Func.isWrapper; first | (rw [if_pos (by decide +kernel)]; kernel_rfl) | (rw [if_neg (by decide +kernel)]; exact ⟨rfl, rfl⟩))
    (fun os started H enc _ => twice_lifted os started H enc)

/-- THE STATEMENT -/
theorem twice_proved : Rows.FnPartTwiceAnyOrderSaid := twice_over
end Go.Proofs.Qxb6616671a
