import Derived.Test.Qxb6613797aProofM
import Derived.Test.Qxb6613797aLawI
namespace Go.Proofs.Qxb6613797a
open Go.ChangeShapes Go.WideShapes Go.ChangeAt Go.RowKit
set_option linter.unusedVariables false

/-- THE WALK: the Go text returns true, and writes nothing that was there. -/
theorem lawI_walk (k : Bool) (s o qs qo cut : Int) (ad : Option Addr) (len cap : Nat) (ns : List (Int × Int)) (w : World) (hm : Marks w ad len ns) :
    Calls Try.prog 4 #[.bool k, .agg #[.int .u32 s, .int .i64 o], .slice ad len cap, .int .i64 cut, .agg #[.int .u32 qs, .int .i64 qo]] w fun e w' => e = .returned (.bool true) ∧ Below w.heap.size w w' := by
  by_cases h1 : 65536 < len
  · exact lawI_out1 k s o qs qo cut ad len cap w hm.le h1
  · by_cases hc : cut < 0 ∨ (len : Int) < cut
    · exact lawI_out2 k s o qs qo cut ad len cap w hm.le (by omega) hc
    · by_cases h2 : k = true ∨ (s = 0 ∧ o = 0)
      · obtain ⟨c, rfl⟩ := Int.eq_ofNat_of_zero_le (show 0 ≤ cut by omega)
        exact lawI_main k s o qs qo c ad len cap ns w hm (by omega) (by omega) h2
      · have hk : k = false := by cases k <;> simp_all
        subst hk
        exact lawI_out3 s o qs qo cut ad len cap w hm.le (by omega) (by omega) (by omega) (by
          by_cases hs : s = 0
          · right; intro ho; exact h2 (Or.inr ⟨hs, ho⟩)
          · exact Or.inl hs)

set_option maxRecDepth 100000 in
theorem liftedI (os : Os) (started : os.Started) (H : Type) (enc : TypeId × Value → H) :
    ReturnsInHanded {} Try.checked os 4 .any (Rows.fnKnownWrittenIgnoresTheOrderOfNotesSpec.pre6 enc Try.prog Try.f4 Rows.fnKnownWrittenIgnoresTheOrderOfNotesRow.domain false) (Rows.fnKnownWrittenIgnoresTheOrderOfNotesSpec.post enc Try.prog Try.f4 false true false false) := by
  refine returnsInHanded_of_change (C := Try.checked) own started (by kernel_rfl) Try.func4
    (ChangeSpec.witness6 (enc := enc) (C := Try.checked) false ⟨#[], #[.bool false, .agg #[.int .u32 0, .int .i64 0], .slice none 0 0, .int .i64 0, .agg #[.int .u32 0, .int .i64 0]], []⟩ 8 (by kernel_rfl) (by kernel_rfl) (by kernel_rfl) (by kernel_rfl)) ?_
  intro W base args ds gs before hval0 hW hcnd _
  have hval : ∀ (j : Nat) t v, Try.f4.params[j]? = some t → args[j]? = some v → Value.okWide Try.prog W .any base t v := hval0
  have hW' := hW
  obtain ⟨p, q, hA0, hV, rfl, hfz, hnd⟩ := hW
  have hA : DataW.TrodAll enc Try.prog W 0 (fun _ => true) true Try.f4.params.toList args.toList ds p := hA0
  rw [Try.params4] at hA hval
  obtain ⟨v0, vs0, d0, ds0, p0, q0, hargs, rfl, rfl, h0, r0⟩ := trodAll_cons hA
  obtain ⟨v1, vs1, d1, ds1, p1, q1, rfl, rfl, rfl, h1, r1⟩ := trodAll_cons r0
  obtain ⟨v2, vs2, d2, ds2, p2, q2, rfl, rfl, rfl, h2, r2⟩ := trodAll_cons r1
  obtain ⟨v3, vs3, d3, ds3, p3, q3, rfl, rfl, rfl, h3, r3⟩ := trodAll_cons r2
  obtain ⟨v4, vs4, d4, ds4, p4, q4, rfl, rfl, rfl, h4, r4⟩ := trodAll_cons r3
  obtain ⟨rfl, rfl, rfl⟩ := trodAll_nil r4
  obtain rfl : args = #[v0, v1, v2, v3, v4] := by cases args; simp_all
  obtain ⟨rfl, rfl⟩ := trodVars_none hV
  have lt0 : ∀ x ∈ p0, x.block < W.heap.size := by obtain ⟨m, hm⟩ := h0; exact DataW.trod_lt m _ _ _ hm
  have lt1 : ∀ x ∈ p1, x.block < W.heap.size := by obtain ⟨m, hm⟩ := h1; exact DataW.trod_lt m _ _ _ hm
  have lt2 : ∀ x ∈ p2, x.block < W.heap.size := by obtain ⟨m, hm⟩ := h2; exact DataW.trod_lt m _ _ _ hm
  have lt3 : ∀ x ∈ p3, x.block < W.heap.size := by obtain ⟨m, hm⟩ := h3; exact DataW.trod_lt m _ _ _ hm
  have lt4 : ∀ x ∈ p4, x.block < W.heap.size := by obtain ⟨m, hm⟩ := h4; exact DataW.trod_lt m _ _ _ hm
  have kw : Calls Try.prog 4 #[v0, v1, v2, v3, v4] W fun e w' => e = .returned (.bool true) ∧ Below W.heap.size W w' := by
    obtain ⟨a0, rfl, _, _⟩ := open_bool Try.underlying4 (hval 0 4 v0 rfl rfl) h0
    obtain ⟨s, o, rfl⟩ := open_mark (hval 1 24 v1 rfl rfl) h1
    obtain ⟨ad, len, cap, ns, rfl, hm⟩ := open_marks (hval 2 25 v2 rfl rfl) h2
    obtain ⟨cut, rfl, _, _, _⟩ := open_int Try.underlying3 (hval 3 3 v3 rfl rfl) h3
    obtain ⟨qs, qo, rfl⟩ := open_mark (hval 4 24 v4 rfl rfl) h4
    exact lawI_walk a0 s o qs qo cut ad len cap ns W hm
  clear hA0 hval0
  refine kw.mono fun e W' ⟨he, bel⟩ => ?_
  subst he
  exact ⟨_, rfl, _, _, _, [], _, [], hW', trodAll_mk1 (shut_bool Try.underlying4 _),
    (trodAll_cons_mk (Below.trod laidOut (by kernel_rfl) (of_decide_eq_true (by kernel_rfl)) h0 bel lt0)
      (trodAll_cons_mk (Below.trod laidOut (by kernel_rfl) (of_decide_eq_true (by kernel_rfl)) h1 bel lt1)
        (trodAll_cons_mk (Below.trod laidOut (by kernel_rfl) (of_decide_eq_true (by kernel_rfl)) h2 bel lt2)
          (trodAll_cons_mk (Below.trod laidOut (by kernel_rfl) (of_decide_eq_true (by kernel_rfl)) h3 bel lt3)
            (trodAll_cons_mk (Below.trod laidOut (by kernel_rfl) (of_decide_eq_true (by kernel_rfl)) h4 bel lt4) trodAll_mk0))))), rfl, bel.frame _, fun h => by cases h⟩

theorem overI : Rows.fnKnownWrittenIgnoresTheOrderOfNotesRow.holds Try.pinned (OpenSpec.ofChange Rows.fnKnownWrittenIgnoresTheOrderOfNotesSpec) :=
  OpenClaim.holds_of_wide 4 Try.f4 rfl rfl rfl rfl rfl rfl rfl ⟨rfl, rfl, rfl, rfl, rfl⟩ rfl rfl rfl rfl rfl (by kernel_rfl) Try.func4 (by kernel_rfl)
    (of_decide_eq_true (by kernel_rfl)) (by unfold Func.isWrapper; first | (rw [if_pos (by decide +kernel)]; kernel_rfl) | (rw [if_neg (by decide +kernel)]; exact ⟨rfl, rfl⟩))
    (fun os started H enc _ => liftedI os started H enc)

/-- THE STATEMENT. -/
theorem provedI : Rows.FnKnownWrittenIgnoresTheOrderOfNotesSaid := overI

end Go.Proofs.Qxb6613797a
