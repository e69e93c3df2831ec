/-
  DERIVED: THE SHELF's CONTRACTS AT THIS DUMP, IN PLAIN WORDS (tools/lay-plain.mjs out of 'TryfShelf.lean', which tools/lay-shelf.mjs wrote): THE SAME DECLARATIONS UNDER THE SAME NAMES: 'import', 'namespace', 'open', 'def', 'theorem' AND NOTHING ELSE: no command of the shelf's: FOR A HAND-IN. Each laying: the table of numbers ('.._ren') and one theorem, a field a fact of the dump's own or the kernel's comparison; each contract: ONE APPLICATION.
-/
import Derived.Shelf.Strings.Builder1
import Derived.Shelf.Strings.Builder2
import Derived.Shelf.Strings.OnBuilder
import Derived.Test.Qxb6613846aFmtProg
namespace Go.Proofs
open Go.Shelf
def Tryf.lays156_ren : Go.Shelf.Ren := ⟨fun | 156 => 34 | 165 => 35 | 166 => 36 | 169 => 37 | 240 => 38 | 241 => 39 | 276 => 40 | 277 => 41 | n => n, fun | 31 => 28 | 9 => 9 | 3 => 3 | 4 => 4 | 0 => 0 | 20 => 20 | 72 => 78 | 76 => 80 | 70 => 75 | 37 => 76 | 75 => 59 | 127 => 83 | 164 => 84 | 5 => 5 | 80 => 82 | n => n, fun | n => n⟩
theorem Tryf.lays156 : Go.Proofs.Lays.n156 Tryf.prog Tryf.lays156_ren := {
  mixed := by kernel_rfl
  f156 := Tryf.func34.trans (congrArg some (by kernel_rfl))
  f165 := Tryf.func35.trans (congrArg some (by kernel_rfl))
  f166 := Tryf.func36.trans (congrArg some (by kernel_rfl))
  f169 := Tryf.func37.trans (congrArg some (by kernel_rfl))
  f240 := Tryf.func38.trans (congrArg some (by kernel_rfl))
  f241 := Tryf.func39.trans (congrArg some (by kernel_rfl))
  f276 := Tryf.func40.trans (congrArg some (by kernel_rfl))
  f277 := Tryf.func41.trans (congrArg some (by kernel_rfl))
  t0 := Tryf.underlying0
  a0 := Tryf.isAgg0
  z0 := Tryf.sizeOf0
  v0 := Tryf.zeroValue0
  t3 := Tryf.underlying3
  a3 := Tryf.isAgg3
  z3 := Tryf.sizeOf3
  v3 := Tryf.zeroValue3
  t4 := Tryf.underlying4
  a4 := Tryf.isAgg4
  z4 := Tryf.sizeOf4
  v4 := Tryf.zeroValue4
  t9 := Tryf.underlying9
  a9 := Tryf.isAgg9
  z9 := Tryf.sizeOf9
  v9 := Tryf.zeroValue9
  t20 := Tryf.underlying20
  a20 := Tryf.isAgg20
  z20 := Tryf.sizeOf20
  v20 := Tryf.zeroValue20
  t31 := Tryf.underlying28
  a31 := Tryf.isAgg28
  z31 := Tryf.sizeOf28
  v31 := Tryf.zeroValue28
  t37 := Tryf.underlying76
  a37 := Tryf.isAgg76
  z37 := Tryf.sizeOf76
  v37 := Tryf.zeroValue76
  t70 := Tryf.underlying75
  a70 := Tryf.isAgg75
  z70 := Tryf.sizeOf75
  v70 := Tryf.zeroValue75
  t72 := Tryf.underlying78
  a72 := Tryf.isAgg78
  z72 := Tryf.sizeOf78
  v72 := Tryf.zeroValue78
  t75 := Tryf.underlying59
  a75 := Tryf.isAgg59
  z75 := Tryf.sizeOf59
  v75 := Tryf.zeroValue59
  t76 := Tryf.underlying80
  a76 := Tryf.isAgg80
  z76 := Tryf.sizeOf80
  v76 := Tryf.zeroValue80
  t127 := Tryf.underlying83
  a127 := Tryf.isAgg83
  z127 := Tryf.sizeOf83
  v127 := Tryf.zeroValue83
  t164 := Tryf.underlying84
  a164 := Tryf.isAgg84
  z164 := Tryf.sizeOf84
  v164 := Tryf.zeroValue84 }
theorem Tryf.Builder_Extra_156 : Builder.Extra Tryf.prog Tryf.lays156_ren := {
  sizeBuilder := by kernel_rfl
  liesBuilder := by kernel_rfl
  t5 := Tryf.underlying5
  a5 := Tryf.isAgg5
  z5 := Tryf.sizeOf5
  v5 := Tryf.zeroValue5
  infoByte := by kernel_rfl
  cellsByte := by kernel_rfl
  sizeByte := by kernel_rfl
  neB5 := by decide }
open Go.RowKit in
/-- No element: the empty string; the world is as it was. (Whatever the slice's address and capacity: a nil slice too.) (LAID: no walk: one application.) -/
theorem Tryf.strings_Join_none (a : Option Addr) (c : Nat) (sep : ByteArray) (w : World) :
    Calls Tryf.prog 34 #[.slice a 0 c, .string sep] w fun e w' => e = .returned (.string ⟨#[]⟩) ∧ w' = w := Any.strings_Join_none Tryf.lays156 Tryf.Builder_Extra_156 a c sep w
open Go.RowKit in
/-- strings.Join: "Join concatenates the elements of its first argument to create a single string. The separator string sep is placed between elements in the resulting string.": HOWEVER MANY ELEMENTS. Below the heap's end the world is as it was. (LAID: no walk: one application.) -/
theorem Tryf.strings_Join (bk o c : Nat) (xs : List ByteArray) (sep : ByteArray) (w : World) (hcells : ∀ (j : Nat) x, xs[j]? = some x → w.cell? ⟨bk, o + j, none⟩ = some (.string x)) (hbk : bk < w.heap.size) (hN : xs.length ≤ 140737488355328) (hcap : xs.length ≤ c) (hlen : (Lib.join (xs.map (·.data.toList)) sep.data.toList).length ≤ 140737488355328) :
    Calls Tryf.prog 34 #[.slice (some ⟨bk, o, none⟩) xs.length c, .string sep] w fun e w' => e = .returned (.string ⟨(Lib.join (xs.map (·.data.toList)) sep.data.toList).toArray⟩) ∧ Below w.heap.size w w' := Any.strings_Join Tryf.lays156 Tryf.Builder_Extra_156 bk o c xs sep w hcells hbk hN hcap hlen
end Go.Proofs
