/-
  DERIVED. GIVEN WITH THE SEED: THE CARDS: each row of Qxb6612590aDoorRows.lean that lists a variable, with what it lists TIED to the program's text (the seventh form; the later family's looks); each row that meets fmt, with fmt's text TOLD by the authors' own Lean function (tested against real Go, not proved from fmt's source: count such statements apart). THE CARD IS WHAT COUNTS. Prove the row's statement (the work); the ties are given (Qxb6612590aDoorTie.lean); close each card by the builder's one call (the guide's Derived/Test/ToyasCard.lean, 'card_holds'). Laid BY PROGRAM, IN A SANDBOX (cutbox-door.mjs). By AI agents, Wed Nov 11 2026. No macro, syntax, notation, axiom, sorry.
-/
import Derived.Test.Qxb6612590aDoorRows
import GoSem.ClaimSeven
namespace Go.Proofs.Qxb6612590aDoor
namespace Rows

/-- THE TIED CARD OF 'zzlaws_internal_resp_b1.FnErrorReplySplitsAfterValidPrefix'. -/
def fnErrorReplySplitsAfterValidPrefixCard : Claim7 := { stood := { row := fnErrorReplySplitsAfterValidPrefixRow, standIns := [], harness := (true, "8d0b622de4ae6ef26fc16a1fd6873f1eda925f15d05235e2e14841f021a6e375"), looks := true }, kinds := [], alts := [], laidByText := true, laidKinds := [.data, .sentinel, .pinned], laidTests := true, laidLooks := .later }
def FnErrorReplySplitsAfterValidPrefixCardSaid : Prop := Claim7.holds Tryd.pinned (.plain (OpenSpec.ofChange fnErrorReplySplitsAfterValidPrefixSpec)) fnErrorReplySplitsAfterValidPrefixCard

/-- THE TIED CARD OF 'zzlaws_internal_resp_b1.FnArrayHeaderAfterAnyFillerAgreesWithInteger'. -/
def fnArrayHeaderAfterAnyFillerAgreesWithIntegerCard : Claim7 := { stood := { row := fnArrayHeaderAfterAnyFillerAgreesWithIntegerRow, standIns := [], harness := (true, "8d0b622de4ae6ef26fc16a1fd6873f1eda925f15d05235e2e14841f021a6e375"), looks := true }, kinds := [], alts := [], laidByText := true, laidKinds := [.data, .data, .data, .sentinel], laidTests := true, laidLooks := .later }
def FnArrayHeaderAfterAnyFillerAgreesWithIntegerCardSaid : Prop := Claim7.holds Tryd.pinned (.plain (OpenSpec.ofChange fnArrayHeaderAfterAnyFillerAgreesWithIntegerSpec)) fnArrayHeaderAfterAnyFillerAgreesWithIntegerCard
end Rows
end Go.Proofs.Qxb6612590aDoor
