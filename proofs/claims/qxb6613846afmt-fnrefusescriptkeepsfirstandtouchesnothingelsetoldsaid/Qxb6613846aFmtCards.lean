/-
  DERIVED. GIVEN WITH THE SEED: THE CARDS: each row of Qxb6613846aFmtRows.lean that lists a variable, with what it lists TIED to the program's text (the seventh form; the later family's looks); each row that meets fmt, with fmt's text TOLD by the authors' own Lean function (tested against real Go, not proved from fmt's source: count such statements apart). THE CARD IS WHAT COUNTS. Prove the row's statement (the work); the ties are given (Qxb6613846aFmtTie.lean); close each card by the builder's one call (the guide's Derived/Test/ToyasCard.lean, 'card_holds'). Laid BY PROGRAM, IN A SANDBOX (cutbox-door.mjs). By AI agents, Wed Nov 11 2026. No macro, syntax, notation, axiom, sorry.
-/
import Derived.Test.Qxb6613846aFmtRows
import GoSem.ClaimSeven
namespace Go.Proofs.Qxb6613846aFmt
namespace Rows

/-- THE TOLD CARD OF 'zzlaws_narrowing_b1.FnRefuseKeepsFirstInEitherOrder'. -/
def fnRefuseKeepsFirstInEitherOrderCard : Claim7 := { stood := { row := fnRefuseKeepsFirstInEitherOrderRow, standIns := [], harness := (true, "dae4a3265ade032545529721acc38cfe6b1529799e153d5799e21c1123a37c08"), looks := false }, told := true, goes := false }
def FnRefuseKeepsFirstInEitherOrderToldSaid : Prop := Claim7.holds Tryf.pinned (.plain (OpenSpec.ofChange fnRefuseKeepsFirstInEitherOrderSpec)) fnRefuseKeepsFirstInEitherOrderCard
/-- ITS FALSE NEIGHBOUR. Refute it at one input. -/
def FnRefuseKeepsFirstInEitherOrderToldWrongFalsely : Prop := Claim7.holds Tryf.pinned (.plain (OpenSpec.ofChange fnRefuseKeepsFirstInEitherOrderWrong)) fnRefuseKeepsFirstInEitherOrderCard

/-- THE TOLD CARD OF 'zzlaws_narrowing_b1.FnRefuseScriptKeepsFirstAndTouchesNothingElse'. -/
def fnRefuseScriptKeepsFirstAndTouchesNothingElseCard : Claim7 := { stood := { row := fnRefuseScriptKeepsFirstAndTouchesNothingElseRow, standIns := [], harness := (true, "dae4a3265ade032545529721acc38cfe6b1529799e153d5799e21c1123a37c08"), looks := false }, told := true, goes := false }
def FnRefuseScriptKeepsFirstAndTouchesNothingElseToldSaid : Prop := Claim7.holds Tryf.pinned (.plain (OpenSpec.ofChange fnRefuseScriptKeepsFirstAndTouchesNothingElseSpec)) fnRefuseScriptKeepsFirstAndTouchesNothingElseCard
/-- ITS FALSE NEIGHBOUR. Refute it at one input. -/
def FnRefuseScriptKeepsFirstAndTouchesNothingElseToldWrongFalsely : Prop := Claim7.holds Tryf.pinned (.plain (OpenSpec.ofChange fnRefuseScriptKeepsFirstAndTouchesNothingElseWrong)) fnRefuseScriptKeepsFirstAndTouchesNothingElseCard
end Rows
end Go.Proofs.Qxb6613846aFmt
