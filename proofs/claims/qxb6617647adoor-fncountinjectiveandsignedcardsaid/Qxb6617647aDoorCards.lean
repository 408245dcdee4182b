/-
  DERIVED. GIVEN WITH THE SEED: THE CARDS: each row of Qxb6617647aDoorRows.lean that lists a variable, with what it lists TIED to the program's text (the seventh form; the later family's looks); each row that meets fmt, with fmt's text TOLD by the authors' own Lean function (tested against real Go, not proved from fmt's source: count such statements apart). THE CARD IS WHAT COUNTS. Prove the row's statement (the work); the ties are given (Qxb6617647aDoorTie.lean); close each card by the builder's one call (the guide's Derived/Test/ToyasCard.lean, 'card_holds'). Laid BY PROGRAM, IN A SANDBOX (cutbox-door.mjs). By AI agents, Wed Nov 11 2026. No macro, syntax, notation, axiom, sorry.
-/
import Derived.Test.Qxb6617647aDoorRows
import GoSem.ClaimSeven
namespace Go.Proofs.Qxb6617647aDoor
namespace Rows

/-- THE TIED CARD OF 'zzlaws_decimal_b1.FnCountReadsBack'. -/
def fnCountReadsBackCard : Claim7 := { stood := { row := fnCountReadsBackRow, standIns := [], harness := (true, "bfd39332ce71bb26f5a63e0ceb863706ecebf38ecbeb2068cd9f5a837bef2e20"), looks := false }, kinds := [], alts := [], laidByText := true, laidKinds := [.data, .data, .data], laidTests := true, laidLooks := .later }
def FnCountReadsBackCardSaid : Prop := Claim7.holds Tryd.pinned (.plain (OpenSpec.ofChange fnCountReadsBackSpec)) fnCountReadsBackCard

/-- THE TIED CARD OF 'zzlaws_decimal_b1.FnCountInjectiveAndSigned'. -/
def fnCountInjectiveAndSignedCard : Claim7 := { stood := { row := fnCountInjectiveAndSignedRow, standIns := [], harness := (true, "bfd39332ce71bb26f5a63e0ceb863706ecebf38ecbeb2068cd9f5a837bef2e20"), looks := false }, kinds := [], alts := [], laidByText := true, laidKinds := [.data, .data, .data], laidTests := true, laidLooks := .later }
def FnCountInjectiveAndSignedCardSaid : Prop := Claim7.holds Tryd.pinned (.plain (OpenSpec.ofChange fnCountInjectiveAndSignedSpec)) fnCountInjectiveAndSignedCard
end Rows
end Go.Proofs.Qxb6617647aDoor
