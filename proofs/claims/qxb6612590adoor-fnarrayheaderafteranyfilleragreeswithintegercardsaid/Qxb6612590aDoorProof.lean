import Derived.Test.Qxb6612590aDoorCards
import Derived.Test.Qxb6612590aDoorTie
import Derived.Test.Qxb6612590aDoorLaw
import Derived.WalkKit
import Derived.ProofKit
import Derived.OpenShut
import Derived.LaidMore
import Derived.Lay
import Derived.SevenTiedAt
import Derived.Stop.Joined
import Derived.ChangeOld
import Derived.Below
import Derived.Deep.Slices
import Derived.Lib.LaidTab
import Derived.Lib.SmallJoins
namespace Go.Proofs.Qxb6612590aDoor
open Go.ChangeShapes Go.WideShapes Go.ChangeAt Go.RowKit
set_option linter.unusedVariables false

set_option maxRecDepth 100000 in
theorem law_any (ad : Option Addr) (len cap : Nat) (fs : List UInt8) (i : Int) (hi0 : -9223372036854775808 ≤ i) (hi1 : i ≤ 9223372036854775807) (w : World) (hf : In w ad len cap fs) (hB : 0 < len → ∀ a, ad = some a → a.block < w.heap.size) (hcap : len ≤ cap) (hcm : cap ≤ 9223372036854775807) (htab : Lib.TabIs Tryd.prog w "internal/strconv.uint64pow10" .u64 Lib.pow10Tab) :
    Calls Tryd.prog 4 #[.slice ad len cap, .int .i64 i] w fun e w' => e = .returned (.bool true) ∧ Below w.heap.size w w' := by
  by_cases h1 : len ≤ 131072
  · exact law_main ad len cap fs i hi0 hi1 w hf hB hcap hcm h1 htab
  by_cases h2 : len ≤ 1048576
  · have q1 : decide ((131072 : Int) < (len : Int)) = true := by simp; omega
    go_enter Tryd.func4, Tryd.ntmps4
    go_wp2_with fail
    refine (guard_yes ad len cap i w h2).mono ?_
    rintro e w0 ⟨rfl, hw0⟩
    subst w0
    go_wp2_with fail
    go_ret
    exact ⟨rfl, Below.refl _ _⟩
  · go_enter Tryd.func4, Tryd.ntmps4
    go_wp2_with fail
    refine (guard_no ad len cap i w (by omega)).mono ?_
    rintro e w0 ⟨rfl, hw0⟩
    subst w0
    go_wp2_with fail
    go_ret
    exact ⟨rfl, Below.refl _ _⟩

theorem own : ownKnob Tryd.prog.godebug = none := by kernel_rfl
theorem laidOut : laidOutB Tryd.prog = true := by kernel_rfl
theorem cells5 : Tryd.prog.cellsOf 5 = 1 := by kernel_rfl

theorem plain_of {w : World} {a : Addr} {v : Value} (z : w.cell? (a.add 0) = some v) : ∃ b off, a = ⟨b, off, none⟩ := by
  obtain ⟨b, off, spot⟩ := a
  have hspot : spot = none := by simpa [Addr.add] using World.cell?_spot z
  subst hspot
  exact ⟨b, off, rfl⟩

theorem cell_lt {w : World} {b o : Nat} {v : Value} (h : w.cell? ⟨b, o, none⟩ = some v) : b < w.heap.size := by
  rcases Nat.lt_or_ge b w.heap.size with h' | h'
  · exact h'
  · simp [World.cell?, Array.getElem?_eq_none h'] at h

set_option maxRecDepth 100000 in
/-- A slice of bytes, by its cell. -/
theorem open_bytes {H : Type} {enc : TypeId × Value → H} {w : World} {held : Bool} {n : Nat} {cs : List Value} {y : DataW H × List MemPlace}
    (h : DataW.trod enc Tryd.prog w 0 (fun _ => true) held n 24 cs = some y) : ∃ ad len cap fs, cs = [.slice ad len cap] ∧ len ≤ cap ∧ cap ≤ maxLen ∧ In w ad len cap fs ∧ (0 < len → ∀ a, ad = some a → a.block < w.heap.size) := by
  rcases Go.Deep.open_slice1 Tryd.underlying24 cells5 h with ⟨hcs, _⟩ | ⟨a, l, c, m, n, V, D, Pl, hcs, _, hlc, hcm, hmm, _, hx⟩
  · exact ⟨none, 0, 0, [], hcs, Nat.le_refl _, Nat.zero_le _, ⟨rfl, fun j hj => absurd hj (Nat.not_lt_zero _), fun _ => ⟨rfl, rfl⟩⟩, fun h => absurd h (Nat.lt_irrefl _)⟩
  · simp only [if_true] at hmm
    subst hmm
    have each : ∀ i, i < l → ∃ x : UInt8, w.cell? (a.add i) = some (.int .u8 (x.toNat : Int)) := fun i hi => by
      obtain ⟨c0, t0⟩ := hx i (by omega)
      obtain ⟨z, e, _, hz⟩ := DataW.trod_int Tryd.underlying5 t0
      simp at e
      obtain ⟨z0, z1⟩ := bounds_u8 hz
      refine ⟨UInt8.ofNat z.toNat, ?_⟩
      have hz2 : ((UInt8.ofNat z.toNat).toNat : Int) = z := by
        rw [UInt8.toNat_ofNat']
        omega
      rw [c0, e, hz2]
    obtain ⟨X, hX⟩ := Go.Deep.choose_lt each
    refine ⟨some a, l, m, (List.range l).map X, hcs, hlc, hcm, ⟨by simp, fun j hj => ?_, fun h => by cases h⟩, fun h0 a' ea => ?_⟩
    · have hj' : j < l := by simpa using hj
      obtain ⟨b, off, rfl⟩ := plain_of (hx 0 (by omega)).1
      have := hX j hj'
      rw [Go.WideShapes.add_plain] at this
      refine ⟨b, off, rfl, ?_⟩
      rw [this]
      simp [List.getD_eq_getElem?_getD, hj']
    · obtain ⟨b, off, rfl⟩ := plain_of (hx 0 (by omega)).1
      simp only [Option.some.injEq] at ea
      subst ea
      have := hX 0 h0
      rw [Go.WideShapes.add_plain] at this
      exact cell_lt this

/-! ### the row -/
abbrev laid4 : List (String × DataW Unit) := Rows.fnArrayHeaderAfterAnyFillerAgreesWithIntegerRow.laid

theorem gPow : Tryd.prog.globalNamed "internal/strconv.uint64pow10" = some 4 := by kernel_rfl
theorem tPow : (Tryd.prog.globals[4]?).map (·.type) = some 103 := by kernel_rfl

set_option maxRecDepth 100000 in
theorem tab_of {W : World} (h : laidMetH Tryd.prog laid4 W) : Lib.TabIs Tryd.prog W "internal/strconv.uint64pow10" .u64 Lib.pow10Tab := by
  rw [MakeChecks.laidMetH_plain _ _ _ (by kernel_rfl)] at h
  obtain ⟨ps, ⟨g0, t0, cs0, f0, p0, q0, hg0, ht0, hv0, hd0, ⟨g1, t1, cs1, f1, p1, q1, hg1, ht1, hv1, hd1, ⟨g2, t2, cs2, f2, p2, q2, hg2, ht2, hv2, hd2, _, _⟩, _⟩, _⟩, _⟩ := h
  obtain rfl := Option.some.inj (gPow.symm.trans hg2)
  obtain rfl := Option.some.inj (tPow.symm.trans ht2)
  have e : (Rows.laid_internal_strconv_uint64pow10 : DataW Unit) = Lib.tabData .u64 Lib.pow10Tab := by kernel_rfl
  rw [e] at hd2
  unfold Lib.TabIs
  rw [hv2, ← Lib.cells_of_tab Tryd.underlying103 Tryd.underlying61 (by kernel_rfl) (by kernel_rfl) hd2]

set_option maxRecDepth 100000 in
theorem lifted (os : Os) (started : os.Started) (H : Type) (enc : TypeId × Value → H) :
    ReturnsInHanded {} Tryd.checked os 4 .any (fun w args => (Rows.fnArrayHeaderAfterAnyFillerAgreesWithIntegerSpec.pre enc Tryd.prog Tryd.f4 Rows.fnArrayHeaderAfterAnyFillerAgreesWithIntegerRow.domain false w args ∧ laidMetH Tryd.prog laid4 w) ∧ sizedMet enc Tryd.prog Tryd.f4 (OpenSpec.ofChange Rows.fnArrayHeaderAfterAnyFillerAgreesWithIntegerSpec) false w args)
      (Rows.fnArrayHeaderAfterAnyFillerAgreesWithIntegerSpec.post enc Tryd.prog Tryd.f4 false true false false) := by
  refine returnsInHanded_of_change_and (C := Tryd.checked) (X := fun w _ => laidMetH Tryd.prog laid4 w) (fun _ _ _ hh h => h.of_heap hh) own started (by kernel_rfl) Tryd.func4
    (ChangeSpec.witness_shaped (enc := enc) (C := Tryd.checked) (os := os) (X := fun w _ => laidMetH Tryd.prog laid4 w) false (World.laidAll Tryd.prog os laid4) #[.slice none 0 0, .int .i64 0] 8 (World.laidAll_os _ _ _)
      (World.shaped_of_ZipB (by kernel_rfl) (by kernel_rfl)) (by kernel_rfl) (by kernel_rfl) (by kernel_rfl)
      (by rw [MakeChecks.laidMetH_plain _ _ _ (by kernel_rfl)]; exact laidMet_laidAll _ (by kernel_rfl) (by kernel_rfl))) ?_
  intro W base args ds gs before hval0 hW hc _ hL _
  have hval : ∀ (j : Nat) t v, Tryd.f4.params[j]? = some t → args[j]? = some v → Value.okWide Tryd.prog W .any base t v := hval0
  have hW' := hW
  obtain ⟨p, q, hA0, hV, rfl, _, _⟩ := hW
  have hA : DataW.TrodAll enc Tryd.prog W 0 (fun _ => true) true Tryd.f4.params.toList args.toList ds p := hA0
  rw [Tryd.params4] at hA hval
  obtain ⟨v0, vs0, d0, ds0, p0, q0, hargs, rfl, rfl, h0, r0⟩ := trodAll_cons hA
  obtain ⟨v1, vs1, d1, ds1, p1, q1, rfl, rfl, rfl, h1, r1⟩ := trodAll_cons r0
  obtain ⟨rfl, rfl, rfl⟩ := trodAll_nil r1
  obtain rfl : args = #[v0, v1] := by cases args; simp_all
  obtain ⟨rfl, rfl⟩ := trodVars_none hV
  have lt0 : ∀ x ∈ p0, x.block < W.heap.size := by obtain ⟨m, hm⟩ := h0; exact DataW.trod_lt m _ _ _ hm
  have lt1 : ∀ x ∈ p1, x.block < W.heap.size := by obtain ⟨m, hm⟩ := h1; exact DataW.trod_lt m _ _ _ hm
  have kw : Calls Tryd.prog 4 #[v0, v1] W fun e w' => e = .returned (.bool true) ∧ Below W.heap.size W w' := by
    obtain ⟨ad, len, cap, rfl⟩ := okWide_slice Tryd.underlying24 (hval 0 24 v0 rfl rfl)
    obtain ⟨x, rfl, _, _, wx⟩ := open_int Tryd.underlying3 (hval 1 3 v1 rfl rfl) h1
    obtain ⟨f0, hf0⟩ := h0
    obtain ⟨ad', len', cap', fs, e0, hlc, hcm, hin, hlt⟩ := open_bytes hf0
    simp [Value.cells] at e0
    obtain ⟨rfl, rfl, rfl⟩ := e0
    obtain ⟨x0, x1⟩ := bounds_i64 wx
    exact law_any ad len cap fs x x0 x1 W hin hlt hlc (by unfold maxLen at hcm; omega) (tab_of hL)
  clear hA0 hval0
  refine kw.mono fun e W' ⟨he, bel⟩ => ?_
  subst he
  exact ⟨_, rfl, _, _, _, [], _, [], hW', trodAll_mk1 (shut_bool Tryd.underlying4 _),
    (trodAll_cons_mk (Below.trod laidOut (by kernel_rfl) (of_decide_eq_true (by kernel_rfl)) h0 bel lt0)
      (trodAll_cons_mk (Below.trod laidOut (by kernel_rfl) (of_decide_eq_true (by kernel_rfl)) h1 bel lt1) trodAll_mk0)), rfl, bel.frame _, fun h => by cases h⟩

theorem over : Rows.FnArrayHeaderAfterAnyFillerAgreesWithIntegerSaid :=
  OpenClaim.holds_of_wide 4 Tryd.f4 rfl rfl rfl rfl rfl rfl rfl ⟨rfl, rfl, rfl, rfl, rfl⟩ rfl rfl rfl rfl rfl (by kernel_rfl) Tryd.func4 (by kernel_rfl)
    (of_decide_eq_true (by kernel_rfl)) (by unfold Func.isWrapper; first | (rw [if_pos (by decide +kernel)]; kernel_rfl) | (rw [if_neg (by decide +kernel)]; exact ⟨rfl, rfl⟩))
    (fun os started H enc _ => lifted os started H enc)

end Go.Proofs.Qxb6612590aDoor
