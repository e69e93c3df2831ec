/-
  No cell of these rows narrows 'for every input' (looked for: loops, veiled, ifaces, maps, wideKeys, modest, calm, conditions, laid).
  DERIVED. THE GIVEN ROWS OF THIS SEAT. 2 by the template 'for every input the law returns true; each argument reads behind the call as it read before'; 0 by the template 'total and deterministic' (their statements: Qxb6613846aFmtTotals.lean).
  GIVEN WITH THE SEED: the statements are not yours to turn. If you find one false, say at which input.
  Laid BY PROGRAM, IN A SANDBOX (cutbox-rows.mjs): the forced cells as the released guide's own fill.sh prints them over the translation 3f8c38c92edb7e87… (all of the seat's roots in one cut). By AI agents, Wed Nov 11 2026. No macro, syntax, notation, axiom, sorry.
-/
import Derived.Test.Qxb6613846aFmtChecked
import GoSem.Claim
import GoSem.ClaimJoined
import GoSem.ClaimMapViews
import Derived.JoinedTies
import Derived.KernelRfl
namespace Go.Proofs.Qxb6613846aFmt
/- THE CELL 'sum', in the pinned program and in every row, IS THE sha256 OF THE DUMP (.gsa) THAT Qxb6613846aFmtProg.lean LOADS. Nothing in Lean hashes anything: it is a label: what it is worth is what the hold of that sum in a sandbox is worth. -/
noncomputable def Tryf.pinned : Pinned := { name := "qxb6613846afmt", sum := "3f8c38c92edb7e87fdefad544ca7edc9e1dc1954566a9731f4f2631bd5bf6ca8", checked := Tryf.checked }
namespace Rows
def none {H : Type} : Left H := { results := [], args := [] }

/-- 'zzlaws_narrowing_b1.FnRefuseKeepsFirstInEitherOrder': WHATEVER THE INPUT: true; the input reads as it did. -/
def fnRefuseKeepsFirstInEitherOrderSpec : ChangeSpec := { name := "fnRefuseKeepsFirstInEitherOrder", fn := fun _ => fun
  | [d1, d2, d3, d4, d5, d6] => { results := [.lit (.bool true)], args := [d1, d2, d3, d4, d5, d6] }
  | _ => none }
def fnRefuseKeepsFirstInEitherOrderRow : OpenClaim := { program := "qxb6613846afmt", sum := "3f8c38c92edb7e87fdefad544ca7edc9e1dc1954566a9731f4f2631bd5bf6ca8", func := "example.com/kagree/kagree/zzlaws_narrowing_b1.FnRefuseKeepsFirstInEitherOrder", spec := "fnRefuseKeepsFirstInEitherOrder", stops := ["fmt.Sprintf", "fmt.errorf"], inPlace := ["fmt.Sprintf", "internal/abi.NoEscape", "internal/bytealg.MakeNoZero", "fmt.errorf"], unfollowed := true, recurses := true, apart := false }
/-- NO THEOREM (fmt's text is open here; it may be false): for the released tool's asking of the row's closed facts alone. THE STATEMENT IS 'FnRefuseKeepsFirstInEitherOrderToldSaid' (Qxb6613846aFmtCards.lean). -/
def FnRefuseKeepsFirstInEitherOrderFormAsk : Prop := fnRefuseKeepsFirstInEitherOrderRow.holds Tryf.pinned (OpenSpec.ofChange fnRefuseKeepsFirstInEitherOrderSpec)

/-- ITS FALSE NEIGHBOUR: 'it returns false'. Refute it at one input. -/
def fnRefuseKeepsFirstInEitherOrderWrong : ChangeSpec := { name := "fnRefuseKeepsFirstInEitherOrder", fn := fun _ => fun
  | [d1, d2, d3, d4, d5, d6] => { results := [.lit (.bool false)], args := [d1, d2, d3, d4, d5, d6] }
  | _ => none }
def FnRefuseKeepsFirstInEitherOrderWrongFormAsk : Prop := fnRefuseKeepsFirstInEitherOrderRow.holds Tryf.pinned (OpenSpec.ofChange fnRefuseKeepsFirstInEitherOrderWrong)

/-- 'zzlaws_narrowing_b1.FnRefuseScriptKeepsFirstAndTouchesNothingElse': WHATEVER THE INPUT: true; the input reads as it did. -/
def fnRefuseScriptKeepsFirstAndTouchesNothingElseSpec : ChangeSpec := { name := "fnRefuseScriptKeepsFirstAndTouchesNothingElse", fn := fun _ => fun
  | [d1, d2, d3, d4] => { results := [.lit (.bool true)], args := [d1, d2, d3, d4] }
  | _ => none }
def fnRefuseScriptKeepsFirstAndTouchesNothingElseRow : OpenClaim := { program := "qxb6613846afmt", sum := "3f8c38c92edb7e87fdefad544ca7edc9e1dc1954566a9731f4f2631bd5bf6ca8", func := "example.com/kagree/kagree/zzlaws_narrowing_b1.FnRefuseScriptKeepsFirstAndTouchesNothingElse", spec := "fnRefuseScriptKeepsFirstAndTouchesNothingElse", stops := ["fmt.Sprintf", "fmt.errorf"], inPlace := ["fmt.Sprintf", "internal/abi.NoEscape", "internal/bytealg.MakeNoZero", "fmt.errorf"], unfollowed := true, recurses := true, apart := false }
/-- NO THEOREM (fmt's text is open here; it may be false): for the released tool's asking of the row's closed facts alone. THE STATEMENT IS 'FnRefuseScriptKeepsFirstAndTouchesNothingElseToldSaid' (Qxb6613846aFmtCards.lean). -/
def FnRefuseScriptKeepsFirstAndTouchesNothingElseFormAsk : Prop := fnRefuseScriptKeepsFirstAndTouchesNothingElseRow.holds Tryf.pinned (OpenSpec.ofChange fnRefuseScriptKeepsFirstAndTouchesNothingElseSpec)

/-- ITS FALSE NEIGHBOUR: 'it returns false'. Refute it at one input. -/
def fnRefuseScriptKeepsFirstAndTouchesNothingElseWrong : ChangeSpec := { name := "fnRefuseScriptKeepsFirstAndTouchesNothingElse", fn := fun _ => fun
  | [d1, d2, d3, d4] => { results := [.lit (.bool false)], args := [d1, d2, d3, d4] }
  | _ => none }
def FnRefuseScriptKeepsFirstAndTouchesNothingElseWrongFormAsk : Prop := fnRefuseScriptKeepsFirstAndTouchesNothingElseRow.holds Tryf.pinned (OpenSpec.ofChange fnRefuseScriptKeepsFirstAndTouchesNothingElseWrong)

end Rows
end Go.Proofs.Qxb6613846aFmt
