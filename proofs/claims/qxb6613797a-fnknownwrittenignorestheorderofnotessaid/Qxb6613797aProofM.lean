import Derived.Test.Qxb6613797aRows
import Derived.Test.Qxb6613797aLawM
import Derived.WalkKit
import Derived.ProofKit
import Derived.OpenShut
import Derived.ShutString
import Derived.ChangeOld
import Derived.Below
import Derived.Deep.SlicePairs
import Derived.Lib.SmallJoins
namespace Go.Proofs.Qxb6613797a
open Go.ChangeShapes Go.WideShapes Go.ChangeAt Go.RowKit
open Go.Joins (open_agg2)
set_option linter.unusedVariables false

theorem own : ownKnob Try.prog.godebug = none := by kernel_rfl
theorem laidOut : laidOutB Try.prog = true := by kernel_rfl
theorem cells24 : Try.prog.cellsOf 24 = 2 := by kernel_rfl

/-- A mark that came in by value. -/
theorem open_mark {H : Type} {enc : TypeId × Value → H} {w : World} {r : Reach} {b0 base : Nat} {spare : Nat → Bool} {held : Bool} {v : Value} {d : DataW H} {p : List MemPlace}
    (hv : Value.okWide Try.prog w r b0 24 v) (h : DataW.Trod enc Try.prog w base spare held 24 v d p) : ∃ a b : Int, v = .agg #[.int .u32 a, .int .i64 b] := by
  obtain ⟨c0, c1, y0, y1, m, rfl, rfl, rfl, hy0, hy1⟩ := open_agg2 Try.underlying24 (by kernel_rfl) cells24 hv h
  obtain ⟨a, e0, _, _⟩ := DataW.trod_int Try.underlying22 hy0
  obtain ⟨b, e1, _, _⟩ := DataW.trod_int Try.underlying2 hy1
  simp at e0 e1
  subst e0 e1
  exact ⟨a, b, rfl⟩

/-- A slice of marks that came in. -/
theorem open_marks {H : Type} {enc : TypeId × Value → H} {w : World} {r : Reach} {b0 : Nat} {held : Bool} {v : Value} {d : DataW H} {p : List MemPlace}
    (hv : Value.okWide Try.prog w r b0 25 v) (h : DataW.Trod enc Try.prog w 0 (fun _ => true) held 25 v d p) : ∃ ad len cap ns, v = .slice ad len cap ∧ Marks w ad len ns := by
  obtain ⟨ad, len, cap, rfl⟩ := okWide_slice Try.underlying25 hv
  obtain ⟨fuel, hf⟩ := h
  rcases Go.Deep.open_slice_pairs Try.underlying25 Try.underlying24 cells24 rfl rfl (by kernel_rfl) (by kernel_rfl) hf with ⟨hcs, _⟩ | ⟨a, l, c, m, n, V0, V1, D0, D1, P0, P1, hcs, _, hlc, hcm, hmm, _, hx⟩
  · simp [Value.cells] at hcs
    obtain ⟨rfl, rfl, rfl⟩ := hcs
    exact ⟨none, 0, 0, [], rfl, rfl, Nat.zero_le _, fun i hi => absurd hi (Nat.not_lt_zero _)⟩
  · simp [Value.cells] at hcs
    obtain ⟨rfl, rfl, rfl⟩ := hcs
    simp only [if_true] at hmm
    subst hmm
    have each : ∀ i, i < m → ∃ q : Int × Int, V0 i = .int .u32 q.1 ∧ V1 i = .int .i64 q.2 := fun i hi => by
      obtain ⟨_, _, h0, h1⟩ := hx i hi
      obtain ⟨x, e0, _, _⟩ := DataW.trod_int Try.underlying22 h0
      obtain ⟨y, e1, _, _⟩ := DataW.trod_int Try.underlying2 h1
      simp at e0 e1
      exact ⟨(x, y), e0, e1⟩
    obtain ⟨q, hq⟩ := Go.Deep.choose_lt each
    refine ⟨some a, len, m, (List.range len).map q, rfl, by simp, Nat.le_trans hlc hcm, fun i hi => ?_⟩
    obtain ⟨c0, c1, _, _⟩ := hx i (by omega)
    have z := (hx 0 (by omega)).1
    obtain ⟨b, off, spot⟩ := a
    have hspot : spot = none := by simpa [Addr.add] using World.cell?_spot z
    subst hspot
    rw [Go.WideShapes.add_plain] at c0 c1
    have e : ((List.range len).map q).getD i (0, 0) = q i := by simp [List.getD_eq_getElem?_getD, hi]
    rw [e]
    exact ⟨b, off, rfl, World.block_lt_of_cell? _ _ c0, by rw [c0, (hq i (by omega)).1], by rw [← Nat.add_assoc] at c1; rw [c1, (hq i (by omega)).2]⟩

/-- THE WALK: the Go text returns true, and writes nothing that was there. -/
theorem lawM_walk (k : Bool) (s o qs qo : Int) (ad : Option Addr) (len cap : Nat) (ns : List (Int × Int)) (w : World) (hm : Marks w ad len ns) :
    Calls Try.prog 3 #[.bool k, .agg #[.int .u32 s, .int .i64 o], .slice ad len cap, .agg #[.int .u32 qs, .int .i64 qo]] w fun e w' => e = .returned (.bool true) ∧ Below w.heap.size w w' := by
  by_cases h1 : 65536 < len
  · exact lawM_out1 k s o qs qo ad len cap w hm.le h1
  · by_cases h2 : k = true ∨ (s = 0 ∧ o = 0)
    · exact lawM_main k s o qs qo ad len cap ns w hm (by omega) h2
    · have hk : k = false := by cases k <;> simp_all
      subst hk
      exact lawM_out2 s o qs qo ad len cap w hm.le (by omega) (by
        by_cases hs : s = 0
        · right; intro ho; exact h2 (Or.inr ⟨hs, ho⟩)
        · exact Or.inl hs)

set_option maxRecDepth 100000 in
theorem liftedM (os : Os) (started : os.Started) (H : Type) (enc : TypeId × Value → H) :
    ReturnsInHanded {} Try.checked os 3 .any (Rows.fnKnownWrittenMatchesAnyNotedMarkAtOrAfterSpec.pre6 enc Try.prog Try.f3 Rows.fnKnownWrittenMatchesAnyNotedMarkAtOrAfterRow.domain false) (Rows.fnKnownWrittenMatchesAnyNotedMarkAtOrAfterSpec.post enc Try.prog Try.f3 false true false false) := by
  refine returnsInHanded_of_change (C := Try.checked) own started (by kernel_rfl) Try.func3
    (ChangeSpec.witness6 (enc := enc) (C := Try.checked) false ⟨#[], #[.bool false, .agg #[.int .u32 0, .int .i64 0], .slice none 0 0, .agg #[.int .u32 0, .int .i64 0]], []⟩ 8 (by kernel_rfl) (by kernel_rfl) (by kernel_rfl) (by kernel_rfl)) ?_
  intro W base args ds gs before hval0 hW hcnd _
  have hval : ∀ (j : Nat) t v, Try.f3.params[j]? = some t → args[j]? = some v → Value.okWide Try.prog W .any base t v := hval0
  have hW' := hW
  obtain ⟨p, q, hA0, hV, rfl, hfz, hnd⟩ := hW
  have hA : DataW.TrodAll enc Try.prog W 0 (fun _ => true) true Try.f3.params.toList args.toList ds p := hA0
  rw [Try.params3] at hA hval
  obtain ⟨v0, vs0, d0, ds0, p0, q0, hargs, rfl, rfl, h0, r0⟩ := trodAll_cons hA
  obtain ⟨v1, vs1, d1, ds1, p1, q1, rfl, rfl, rfl, h1, r1⟩ := trodAll_cons r0
  obtain ⟨v2, vs2, d2, ds2, p2, q2, rfl, rfl, rfl, h2, r2⟩ := trodAll_cons r1
  obtain ⟨v3, vs3, d3, ds3, p3, q3, rfl, rfl, rfl, h3, r3⟩ := trodAll_cons r2
  obtain ⟨rfl, rfl, rfl⟩ := trodAll_nil r3
  obtain rfl : args = #[v0, v1, v2, v3] := by cases args; simp_all
  obtain ⟨rfl, rfl⟩ := trodVars_none hV
  have lt0 : ∀ x ∈ p0, x.block < W.heap.size := by obtain ⟨m, hm⟩ := h0; exact DataW.trod_lt m _ _ _ hm
  have lt1 : ∀ x ∈ p1, x.block < W.heap.size := by obtain ⟨m, hm⟩ := h1; exact DataW.trod_lt m _ _ _ hm
  have lt2 : ∀ x ∈ p2, x.block < W.heap.size := by obtain ⟨m, hm⟩ := h2; exact DataW.trod_lt m _ _ _ hm
  have lt3 : ∀ x ∈ p3, x.block < W.heap.size := by obtain ⟨m, hm⟩ := h3; exact DataW.trod_lt m _ _ _ hm
  have kw : Calls Try.prog 3 #[v0, v1, v2, v3] W fun e w' => e = .returned (.bool true) ∧ Below W.heap.size W w' := by
    obtain ⟨a0, rfl, _, _⟩ := open_bool Try.underlying4 (hval 0 4 v0 rfl rfl) h0
    obtain ⟨s, o, rfl⟩ := open_mark (hval 1 24 v1 rfl rfl) h1
    obtain ⟨ad, len, cap, ns, rfl, hm⟩ := open_marks (hval 2 25 v2 rfl rfl) h2
    obtain ⟨qs, qo, rfl⟩ := open_mark (hval 3 24 v3 rfl rfl) h3
    exact lawM_walk a0 s o qs qo ad len cap ns W hm
  clear hA0 hval0
  refine kw.mono fun e W' ⟨he, bel⟩ => ?_
  subst he
  exact ⟨_, rfl, _, _, _, [], _, [], hW', trodAll_mk1 (shut_bool Try.underlying4 _),
    (trodAll_cons_mk (Below.trod laidOut (by kernel_rfl) (of_decide_eq_true (by kernel_rfl)) h0 bel lt0)
      (trodAll_cons_mk (Below.trod laidOut (by kernel_rfl) (of_decide_eq_true (by kernel_rfl)) h1 bel lt1)
        (trodAll_cons_mk (Below.trod laidOut (by kernel_rfl) (of_decide_eq_true (by kernel_rfl)) h2 bel lt2)
          (trodAll_cons_mk (Below.trod laidOut (by kernel_rfl) (of_decide_eq_true (by kernel_rfl)) h3 bel lt3) trodAll_mk0)))), rfl, bel.frame _, fun h => by cases h⟩

theorem overM : Rows.fnKnownWrittenMatchesAnyNotedMarkAtOrAfterRow.holds Try.pinned (OpenSpec.ofChange Rows.fnKnownWrittenMatchesAnyNotedMarkAtOrAfterSpec) :=
  OpenClaim.holds_of_wide 3 Try.f3 rfl rfl rfl rfl rfl rfl rfl ⟨rfl, rfl, rfl, rfl, rfl⟩ rfl rfl rfl rfl rfl (by kernel_rfl) Try.func3 (by kernel_rfl)
    (of_decide_eq_true (by kernel_rfl)) (by unfold Func.isWrapper; first | (rw [if_pos (by decide +kernel)]; kernel_rfl) | (rw [if_neg (by decide +kernel)]; exact ⟨rfl, rfl⟩))
    (fun os started H enc _ => liftedM os started H enc)

/-- THE STATEMENT. -/
theorem provedM : Rows.FnKnownWrittenMatchesAnyNotedMarkAtOrAfterSaid := overM

end Go.Proofs.Qxb6613797a
