/-
  No cell of these rows narrows 'for every input' (looked for: loops, veiled, ifaces, maps, wideKeys, modest, calm, conditions, laid).
  DERIVED. THE GIVEN ROWS OF THIS SEAT. 4 by the template 'for every input the law returns true; each argument reads behind the call as it read before'; 0 by the template 'total and deterministic' (their statements: Qxb6616671aTotals.lean).
  GIVEN WITH THE SEED: the statements are not yours to turn. If you find one false, say at which input.
  Laid BY PROGRAM, IN A SANDBOX (cutbox-rows.mjs): the forced cells as the released guide's own fill.sh prints them over the translation aefc46bbf7953268… (all of the seat's roots in one cut). By AI agents, Wed Nov 11 2026. No macro, syntax, notation, axiom, sorry.
-/
import Derived.Test.Qxb6616671aChecked
import GoSem.Claim
import GoSem.ClaimJoined
import GoSem.ClaimMapViews
import Derived.JoinedTies
import Derived.KernelRfl
namespace Go.Proofs.Qxb6616671a
/- THE CELL 'sum', in the pinned program and in every row, IS THE sha256 OF THE DUMP (.gsa) THAT Qxb6616671aProg.lean LOADS. Nothing in Lean hashes anything: it is a label: what it is worth is what the hold of that sum in a sandbox is worth. -/
noncomputable def Try.pinned : Pinned := { name := "qxb6616671a", sum := "aefc46bbf79532686c3b755e49badd7ac546250617294ae7aeabc374de5ca8d1", checked := Try.checked }
namespace Rows
def none {H : Type} : Left H := { results := [], args := [] }

/-- 'zzlaws_root_b1.FnPartTwiceAnyOrder': WHATEVER THE INPUT: true; the input reads as it did. -/
def fnPartTwiceAnyOrderSpec : ChangeSpec := { name := "fnPartTwiceAnyOrder", fn := fun _ => fun
  | [d1, d2, d3, d4, d5] => { results := [.lit (.bool true)], args := [d1, d2, d3, d4, d5] }
  | _ => none }
def fnPartTwiceAnyOrderRow : OpenClaim := { program := "qxb6616671a", sum := "aefc46bbf79532686c3b755e49badd7ac546250617294ae7aeabc374de5ca8d1", func := "example.com/antecede/antecede/zzlaws_root_b1.FnPartTwiceAnyOrder", spec := "fnPartTwiceAnyOrder", unfollowed := true, recurses := true, plainKeys := false, apart := false }
def FnPartTwiceAnyOrderSaid : Prop := fnPartTwiceAnyOrderRow.holds Try.pinned (OpenSpec.ofChange fnPartTwiceAnyOrderSpec)

/-- ITS FALSE NEIGHBOUR: 'it returns false'. Refute it at one input. -/
def fnPartTwiceAnyOrderWrong : ChangeSpec := { name := "fnPartTwiceAnyOrder", fn := fun _ => fun
  | [d1, d2, d3, d4, d5] => { results := [.lit (.bool false)], args := [d1, d2, d3, d4, d5] }
  | _ => none }
def FnPartTwiceAnyOrderWrongFalsely : Prop := fnPartTwiceAnyOrderRow.holds Try.pinned (OpenSpec.ofChange fnPartTwiceAnyOrderWrong)

/-- 'zzlaws_root_b1.FnPartThenOpening': WHATEVER THE INPUT: true; the input reads as it did. -/
def fnPartThenOpeningSpec : ChangeSpec := { name := "fnPartThenOpening", fn := fun _ => fun
  | [d1, d2, d3, d4] => { results := [.lit (.bool true)], args := [d1, d2, d3, d4] }
  | _ => none }
def fnPartThenOpeningRow : OpenClaim := { program := "qxb6616671a", sum := "aefc46bbf79532686c3b755e49badd7ac546250617294ae7aeabc374de5ca8d1", func := "example.com/antecede/antecede/zzlaws_root_b1.FnPartThenOpening", spec := "fnPartThenOpening", unfollowed := true, recurses := true, plainKeys := false, apart := false }
def FnPartThenOpeningSaid : Prop := fnPartThenOpeningRow.holds Try.pinned (OpenSpec.ofChange fnPartThenOpeningSpec)

/-- ITS FALSE NEIGHBOUR: 'it returns false'. Refute it at one input. -/
def fnPartThenOpeningWrong : ChangeSpec := { name := "fnPartThenOpening", fn := fun _ => fun
  | [d1, d2, d3, d4] => { results := [.lit (.bool false)], args := [d1, d2, d3, d4] }
  | _ => none }
def FnPartThenOpeningWrongFalsely : Prop := fnPartThenOpeningRow.holds Try.pinned (OpenSpec.ofChange fnPartThenOpeningWrong)

/-- 'zzlaws_root_b1.FnOpeningOneInserted': WHATEVER THE INPUT: true; the input reads as it did. -/
def fnOpeningOneInsertedSpec : ChangeSpec := { name := "fnOpeningOneInserted", fn := fun _ => fun
  | [d1, d2, d3, d4, d5, d6] => { results := [.lit (.bool true)], args := [d1, d2, d3, d4, d5, d6] }
  | _ => none }
def fnOpeningOneInsertedRow : OpenClaim := { program := "qxb6616671a", sum := "aefc46bbf79532686c3b755e49badd7ac546250617294ae7aeabc374de5ca8d1", func := "example.com/antecede/antecede/zzlaws_root_b1.FnOpeningOneInserted", spec := "fnOpeningOneInserted", plainKeys := false, apart := false }
def FnOpeningOneInsertedSaid : Prop := fnOpeningOneInsertedRow.holds Try.pinned (OpenSpec.ofChange fnOpeningOneInsertedSpec)

/-- ITS FALSE NEIGHBOUR: 'it returns false'. Refute it at one input. -/
def fnOpeningOneInsertedWrong : ChangeSpec := { name := "fnOpeningOneInserted", fn := fun _ => fun
  | [d1, d2, d3, d4, d5, d6] => { results := [.lit (.bool false)], args := [d1, d2, d3, d4, d5, d6] }
  | _ => none }
def FnOpeningOneInsertedWrongFalsely : Prop := fnOpeningOneInsertedRow.holds Try.pinned (OpenSpec.ofChange fnOpeningOneInsertedWrong)

/-- 'zzlaws_root_b1.FnDoneIffTakesNobody': WHATEVER THE INPUT: true; the input reads as it did. -/
def fnDoneIffTakesNobodySpec : ChangeSpec := { name := "fnDoneIffTakesNobody", fn := fun _ => fun
  | [d1, d2, d3, d4] => { results := [.lit (.bool true)], args := [d1, d2, d3, d4] }
  | _ => none }
def fnDoneIffTakesNobodyRow : OpenClaim := { program := "qxb6616671a", sum := "aefc46bbf79532686c3b755e49badd7ac546250617294ae7aeabc374de5ca8d1", func := "example.com/antecede/antecede/zzlaws_root_b1.FnDoneIffTakesNobody", spec := "fnDoneIffTakesNobody", plainKeys := false, apart := false }
def FnDoneIffTakesNobodySaid : Prop := fnDoneIffTakesNobodyRow.holds Try.pinned (OpenSpec.ofChange fnDoneIffTakesNobodySpec)

/-- ITS FALSE NEIGHBOUR: 'it returns false'. Refute it at one input. -/
def fnDoneIffTakesNobodyWrong : ChangeSpec := { name := "fnDoneIffTakesNobody", fn := fun _ => fun
  | [d1, d2, d3, d4] => { results := [.lit (.bool false)], args := [d1, d2, d3, d4] }
  | _ => none }
def FnDoneIffTakesNobodyWrongFalsely : Prop := fnDoneIffTakesNobodyRow.holds Try.pinned (OpenSpec.ofChange fnDoneIffTakesNobodyWrong)

end Rows
end Go.Proofs.Qxb6616671a
