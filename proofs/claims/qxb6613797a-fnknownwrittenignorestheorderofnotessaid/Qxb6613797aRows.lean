/-
  No cell of these rows narrows 'for every input' (looked for: loops, veiled, ifaces, maps, wideKeys, modest, calm, conditions, laid).
  DERIVED. THE GIVEN ROWS OF THIS SEAT. 2 by the template 'for every input the law returns true; each argument reads behind the call as it read before'; 0 by the template 'total and deterministic' (their statements: Qxb6613797aTotals.lean).
  GIVEN WITH THE SEED: the statements are not yours to turn. If you find one false, say at which input.
  Laid BY PROGRAM, IN A SANDBOX (cutbox-rows.mjs): the forced cells as the released guide's own fill.sh prints them over the translation b853c68c72aa4c33… (all of the seat's roots in one cut). By AI agents, Wed Nov 11 2026. No macro, syntax, notation, axiom, sorry.
-/
import Derived.Test.Qxb6613797aChecked
import GoSem.Claim
import GoSem.ClaimJoined
import GoSem.ClaimMapViews
import Derived.JoinedTies
import Derived.KernelRfl
namespace Go.Proofs.Qxb6613797a
/- THE CELL 'sum', in the pinned program and in every row, IS THE sha256 OF THE DUMP (.gsa) THAT Qxb6613797aProg.lean LOADS. Nothing in Lean hashes anything: it is a label: what it is worth is what the hold of that sum in a sandbox is worth. -/
noncomputable def Try.pinned : Pinned := { name := "qxb6613797a", sum := "b853c68c72aa4c339964ba91a81ebb2a743b3c87c73f5c79edbd37d1e7ccfbe1", checked := Try.checked }
namespace Rows
def none {H : Type} : Left H := { results := [], args := [] }

/-- 'zzlaws_internal_blocklog_b1.FnKnownWrittenMatchesAnyNotedMarkAtOrAfter': WHATEVER THE INPUT: true; the input reads as it did. -/
def fnKnownWrittenMatchesAnyNotedMarkAtOrAfterSpec : ChangeSpec := { name := "fnKnownWrittenMatchesAnyNotedMarkAtOrAfter", fn := fun _ => fun
  | [d1, d2, d3, d4] => { results := [.lit (.bool true)], args := [d1, d2, d3, d4] }
  | _ => none }
def fnKnownWrittenMatchesAnyNotedMarkAtOrAfterRow : OpenClaim := { program := "qxb6613797a", sum := "b853c68c72aa4c339964ba91a81ebb2a743b3c87c73f5c79edbd37d1e7ccfbe1", func := "example.com/tierledger/tierledger/zzlaws_internal_blocklog_b1.FnKnownWrittenMatchesAnyNotedMarkAtOrAfter", spec := "fnKnownWrittenMatchesAnyNotedMarkAtOrAfter", apart := false }
def FnKnownWrittenMatchesAnyNotedMarkAtOrAfterSaid : Prop := fnKnownWrittenMatchesAnyNotedMarkAtOrAfterRow.holds Try.pinned (OpenSpec.ofChange fnKnownWrittenMatchesAnyNotedMarkAtOrAfterSpec)

/-- ITS FALSE NEIGHBOUR: 'it returns false'. Refute it at one input. -/
def fnKnownWrittenMatchesAnyNotedMarkAtOrAfterWrong : ChangeSpec := { name := "fnKnownWrittenMatchesAnyNotedMarkAtOrAfter", fn := fun _ => fun
  | [d1, d2, d3, d4] => { results := [.lit (.bool false)], args := [d1, d2, d3, d4] }
  | _ => none }
def FnKnownWrittenMatchesAnyNotedMarkAtOrAfterWrongFalsely : Prop := fnKnownWrittenMatchesAnyNotedMarkAtOrAfterRow.holds Try.pinned (OpenSpec.ofChange fnKnownWrittenMatchesAnyNotedMarkAtOrAfterWrong)

/-- 'zzlaws_internal_blocklog_b1.FnKnownWrittenIgnoresTheOrderOfNotes': WHATEVER THE INPUT: true; the input reads as it did. -/
def fnKnownWrittenIgnoresTheOrderOfNotesSpec : ChangeSpec := { name := "fnKnownWrittenIgnoresTheOrderOfNotes", fn := fun _ => fun
  | [d1, d2, d3, d4, d5] => { results := [.lit (.bool true)], args := [d1, d2, d3, d4, d5] }
  | _ => none }
def fnKnownWrittenIgnoresTheOrderOfNotesRow : OpenClaim := { program := "qxb6613797a", sum := "b853c68c72aa4c339964ba91a81ebb2a743b3c87c73f5c79edbd37d1e7ccfbe1", func := "example.com/tierledger/tierledger/zzlaws_internal_blocklog_b1.FnKnownWrittenIgnoresTheOrderOfNotes", spec := "fnKnownWrittenIgnoresTheOrderOfNotes", apart := false }
def FnKnownWrittenIgnoresTheOrderOfNotesSaid : Prop := fnKnownWrittenIgnoresTheOrderOfNotesRow.holds Try.pinned (OpenSpec.ofChange fnKnownWrittenIgnoresTheOrderOfNotesSpec)

/-- ITS FALSE NEIGHBOUR: 'it returns false'. Refute it at one input. -/
def fnKnownWrittenIgnoresTheOrderOfNotesWrong : ChangeSpec := { name := "fnKnownWrittenIgnoresTheOrderOfNotes", fn := fun _ => fun
  | [d1, d2, d3, d4, d5] => { results := [.lit (.bool false)], args := [d1, d2, d3, d4, d5] }
  | _ => none }
def FnKnownWrittenIgnoresTheOrderOfNotesWrongFalsely : Prop := fnKnownWrittenIgnoresTheOrderOfNotesRow.holds Try.pinned (OpenSpec.ofChange fnKnownWrittenIgnoresTheOrderOfNotesWrong)

end Rows
end Go.Proofs.Qxb6613797a
