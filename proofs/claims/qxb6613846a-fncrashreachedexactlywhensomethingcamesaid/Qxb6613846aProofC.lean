import Derived.Test.Qxb6613846aRows
import Derived.Test.Qxb6613846aLawC
import Derived.WalkKit
import Derived.ProofKit
import Derived.OpenShut
import Derived.ShutString
import Derived.ChangeOld
import Derived.Below
import Derived.Deep.Slices
import Derived.Lib.SmallJoins
namespace Go.Proofs.Qxb6613846a.C
open Go.ChangeShapes Go.WideShapes Go.ChangeAt Go.RowKit
open Go.ChangeMaps (open_string shut_string)
set_option linter.unusedVariables false

theorem own : ownKnob Try.prog.godebug = none := by kernel_rfl
theorem laidOut : laidOutB Try.prog = true := by kernel_rfl
theorem cells9 : Try.prog.cellsOf 9 = 1 := by kernel_rfl
theorem cells4 : Try.prog.cellsOf 4 = 1 := by kernel_rfl
theorem cells22 : Try.prog.cellsOf 22 = 1 := by kernel_rfl

theorem plain_of {w : World} {a : Addr} {v : Value} (z : w.cell? (a.add 0) = some v) : ∃ b off, a = ⟨b, off, none⟩ := by
  obtain ⟨b, off, spot⟩ := a
  have hspot : spot = none := by simpa [Addr.add] using World.cell?_spot z
  subst hspot
  exact ⟨b, off, rfl⟩

set_option maxRecDepth 100000 in
/-- A slice of strings, by its cell. -/
theorem open_strs {H : Type} {enc : TypeId × Value → H} {w : World} {held : Bool} {n : Nat} {cs : List Value} {y : DataW H × List MemPlace}
    (h : DataW.trod enc Try.prog w 0 (fun _ => true) held n 22 cs = some y) : ∃ ad len cap, cs = [.slice ad len cap] ∧ len ≤ maxLen ∧ Strs w ad len := by
  rcases Go.Deep.open_slice1 Try.underlying22 cells9 h with ⟨hcs, _⟩ | ⟨a, l, c, m, n, V, D, Pl, hcs, _, hlc, hcm, hmm, _, hx⟩
  · exact ⟨none, 0, 0, hcs, Nat.zero_le _, ⟨fun i hi => absurd hi (Nat.not_lt_zero _)⟩⟩
  · simp only [if_true] at hmm
    subst hmm
    refine ⟨some a, l, m, hcs, Nat.le_trans hlc hcm, ⟨fun i hi => ?_⟩⟩
    obtain ⟨c0, t0⟩ := hx i (by omega)
    obtain ⟨b, off, rfl⟩ := plain_of (hx 0 (by omega)).1
    obtain ⟨s, e, _, hs⟩ := DataW.trod_string Try.underlying9 t0
    simp at e
    rw [Go.WideShapes.add_plain, e] at c0
    exact ⟨b, off, s, rfl, c0, hs⟩

set_option maxRecDepth 100000 in
theorem open_bools {H : Type} {enc : TypeId × Value → H} {w : World} {held : Bool} {n : Nat} {cs : List Value} {y : DataW H × List MemPlace}
    (h : DataW.trod enc Try.prog w 0 (fun _ => true) held n 70 cs = some y) : ∃ ad len cap, cs = [.slice ad len cap] ∧ len ≤ maxLen ∧ Bools w ad len := by
  rcases Go.Deep.open_slice1 Try.underlying70 cells4 h with ⟨hcs, _⟩ | ⟨a, l, c, m, n, V, D, Pl, hcs, _, hlc, hcm, hmm, _, hx⟩
  · exact ⟨none, 0, 0, hcs, Nat.zero_le _, ⟨fun i hi => absurd hi (Nat.not_lt_zero _)⟩⟩
  · simp only [if_true] at hmm
    subst hmm
    refine ⟨some a, l, m, hcs, Nat.le_trans hlc hcm, ⟨fun i hi => ?_⟩⟩
    obtain ⟨c0, t0⟩ := hx i (by omega)
    obtain ⟨b, off, rfl⟩ := plain_of (hx 0 (by omega)).1
    obtain ⟨s, e, _⟩ := DataW.trod_bool Try.underlying4 t0
    simp at e
    rw [Go.WideShapes.add_plain, e] at c0
    exact ⟨b, off, s, rfl, c0⟩

set_option maxRecDepth 100000 in
theorem open_rows {H : Type} {enc : TypeId × Value → H} {w : World} {held : Bool} {n : Nat} {cs : List Value} {y : DataW H × List MemPlace}
    (h : DataW.trod enc Try.prog w 0 (fun _ => true) held n 69 cs = some y) : ∃ ad len cap Ls, cs = [.slice ad len cap] ∧ len ≤ maxLen ∧ Rws w ad len Ls ∧ ∀ i, i < len → Ls i ≤ maxLen := by
  rcases Go.Deep.open_slice1 Try.underlying69 cells22 h with ⟨hcs, _⟩ | ⟨a, l, c, m, n, V, D, Pl, hcs, _, hlc, hcm, hmm, _, hx⟩
  · exact ⟨none, 0, 0, fun _ => 0, hcs, Nat.zero_le _, ⟨fun i hi => absurd hi (Nat.not_lt_zero _)⟩, fun i hi => absurd hi (Nat.not_lt_zero _)⟩
  · simp only [if_true] at hmm
    subst hmm
    have each : ∀ i, i < m → ∃ q : Option Addr × Nat × Nat, V i = .slice q.1 q.2.1 q.2.2 ∧ q.2.1 ≤ maxLen ∧ Strs w q.1 q.2.1 := fun i hi => by
      obtain ⟨ad, len, cap, e, hl, hs⟩ := open_strs (hx i hi).2
      simp at e
      exact ⟨(ad, len, cap), e, hl, hs⟩
    obtain ⟨q, hq⟩ := Go.Deep.choose_lt each
    refine ⟨some a, l, m, fun i => (q i).2.1, hcs, Nat.le_trans hlc hcm, ⟨fun i hi => ?_⟩, fun i hi => (hq i (by omega)).2.1⟩
    obtain ⟨c0, t0⟩ := hx i (by omega)
    obtain ⟨b, off, rfl⟩ := plain_of (hx 0 (by omega)).1
    rw [Go.WideShapes.add_plain, (hq i (by omega)).1] at c0
    exact ⟨b, off, (q i).1, (q i).2.2, rfl, c0, (hq i (by omega)).2.2⟩

set_option maxHeartbeats 1000000 in
set_option maxRecDepth 100000 in
theorem lawC_out (ad td bd : Option Addr) (len cap n tcap bl bcap : Nat) (Ls : Nat → Nat) (k : Bool) (ix : Int) (v : ByteArray) (w : World) (hs : Strs w ad len) (hr : Rws w td n Ls) (hml : len ≤ maxLen) (hmn : n ≤ maxLen) (hmL : ∀ i, i < n → Ls i ≤ maxLen) (hmb : bl ≤ maxLen) (hmv : v.size ≤ maxLen) (hix : ix < 0 ∨ (n : Int) ≤ ix) :
    Calls Try.prog 7 #[.slice ad len cap, .slice td n tcap, .bool k, .slice bd bl bcap, .int .i64 ix, .string v] w fun e w' => e = .returned (.bool true) ∧ Below w.heap.size w w' := by
  go_enter Try.func7, Try.ntmps7
  go_wp2_with fail
  refine (bytesC_any ad td bd len cap n tcap bl bcap Ls k _ v _ hs hr hml hmn hmL hmb hmv).mono ?_
  rintro e w1 ⟨⟨b, rfl, hbd⟩, hw⟩
  subst w1
  cases b
  · go_wp2_with fail
    go_ret
    exact ⟨rfl, Below.refl _ _⟩
  obtain ⟨g1, g2, g3, g4⟩ := hbd rfl
  clear hbd
  go_wp2_with fail
  refine (inboxBytes_any ad td bd len cap n tcap bl bcap Ls v _ hs hr hml hmn hmL hmb hmv).mono ?_
  rintro e w1 ⟨u, rfl, u0, u1, hw⟩
  subst w1
  clear hml hmn hmL hmb hmv
  by_cases hu : 1048576 < u
  · go_wp2_with fail
    go_ret
    exact ⟨rfl, Below.refl _ _⟩
  by_cases h0 : ix < 0
  · go_wp2_with fail
    go_ret
    exact ⟨rfl, Below.refl _ _⟩
  · have h1 : (n : Int) ≤ ix := by omega
    go_wp2_with fail
    go_ret
    exact ⟨rfl, Below.refl _ _⟩

set_option maxRecDepth 100000 in
theorem lifted (os : Os) (started : os.Started) (H : Type) (enc : TypeId × Value → H) :
    ReturnsInHanded {} Try.checked os 7 .any (Rows.fnCrashReachedExactlyWhenSomethingCameSpec.pre6 enc Try.prog Try.f7 Rows.fnCrashReachedExactlyWhenSomethingCameRow.domain false) (Rows.fnCrashReachedExactlyWhenSomethingCameSpec.post enc Try.prog Try.f7 false true false false) := by
  refine returnsInHanded_of_change (C := Try.checked) own started (by kernel_rfl) Try.func7
    (ChangeSpec.witness6 (enc := enc) (C := Try.checked) false ⟨#[], #[.slice none 0 0, .slice none 0 0, .bool false, .slice none 0 0, .int .i64 0, .string ByteArray.empty], []⟩ 8 (by kernel_rfl) (by kernel_rfl) (by kernel_rfl) (by kernel_rfl)) ?_
  intro W base args ds gs before hval0 hW hcnd _
  have hval : ∀ (j : Nat) t v, Try.f7.params[j]? = some t → args[j]? = some v → Value.okWide Try.prog W .any base t v := hval0
  have hW' := hW
  obtain ⟨p, q, hA0, hV, rfl, hfz, hnd⟩ := hW
  have hA : DataW.TrodAll enc Try.prog W 0 (fun _ => true) true Try.f7.params.toList args.toList ds p := hA0
  rw [Try.params7] at hA hval
  obtain ⟨v0, vs0, d0, ds0, p0, q0, hargs, rfl, rfl, h0, r0⟩ := trodAll_cons hA
  obtain ⟨v1, vs1, d1, ds1, p1, q1, rfl, rfl, rfl, h1, r1⟩ := trodAll_cons r0
  obtain ⟨v2, vs2, d2, ds2, p2, q2, rfl, rfl, rfl, h2, r2⟩ := trodAll_cons r1
  obtain ⟨v3, vs3, d3, ds3, p3, q3, rfl, rfl, rfl, h3, r3⟩ := trodAll_cons r2
  obtain ⟨v4, vs4, d4, ds4, p4, q4, rfl, rfl, rfl, h4, r4⟩ := trodAll_cons r3
  obtain ⟨v5, vs5, d5, ds5, p5, q5, rfl, rfl, rfl, h5, r5⟩ := trodAll_cons r4
  obtain ⟨rfl, rfl, rfl⟩ := trodAll_nil r5
  obtain rfl : args = #[v0, v1, v2, v3, v4, v5] := by cases args; simp_all
  obtain ⟨rfl, rfl⟩ := trodVars_none hV
  have lt0 : ∀ x ∈ p0, x.block < W.heap.size := by obtain ⟨m, hm⟩ := h0; exact DataW.trod_lt m _ _ _ hm
  have lt1 : ∀ x ∈ p1, x.block < W.heap.size := by obtain ⟨m, hm⟩ := h1; exact DataW.trod_lt m _ _ _ hm
  have lt2 : ∀ x ∈ p2, x.block < W.heap.size := by obtain ⟨m, hm⟩ := h2; exact DataW.trod_lt m _ _ _ hm
  have lt3 : ∀ x ∈ p3, x.block < W.heap.size := by obtain ⟨m, hm⟩ := h3; exact DataW.trod_lt m _ _ _ hm
  have lt4 : ∀ x ∈ p4, x.block < W.heap.size := by obtain ⟨m, hm⟩ := h4; exact DataW.trod_lt m _ _ _ hm
  have lt5 : ∀ x ∈ p5, x.block < W.heap.size := by obtain ⟨m, hm⟩ := h5; exact DataW.trod_lt m _ _ _ hm
  have kw : Calls Try.prog 7 #[v0, v1, v2, v3, v4, v5] W fun e w' => e = .returned (.bool true) ∧ Below W.heap.size W w' := by
    obtain ⟨ad, len, cap, rfl⟩ := okWide_slice Try.underlying22 (hval 0 22 v0 rfl rfl)
    obtain ⟨td, n, tcap, rfl⟩ := okWide_slice Try.underlying69 (hval 1 69 v1 rfl rfl)
    obtain ⟨k, rfl, _, _⟩ := open_bool Try.underlying4 (hval 2 4 v2 rfl rfl) h2
    obtain ⟨bd, bl, bcap, rfl⟩ := okWide_slice Try.underlying70 (hval 3 70 v3 rfl rfl)
    obtain ⟨ix, rfl, _, _, _⟩ := open_int Try.underlying3 (hval 4 3 v4 rfl rfl) h4
    obtain ⟨s, rfl, _, _, hmv⟩ := open_string Try.underlying9 (hval 5 9 v5 rfl rfl) h5
    obtain ⟨f0, hf0⟩ := h0
    obtain ⟨ad', len', cap', e0, hml, hs⟩ := open_strs hf0
    simp [Value.cells] at e0
    obtain ⟨rfl, rfl, rfl⟩ := e0
    obtain ⟨f1, hf1⟩ := h1
    obtain ⟨td', n', tcap', Ls, e1, hmn, hr, hmL⟩ := open_rows hf1
    simp [Value.cells] at e1
    obtain ⟨rfl, rfl, rfl⟩ := e1
    obtain ⟨f3, hf3⟩ := h3
    obtain ⟨bd', bl', bcap', e3, hmb, hb⟩ := open_bools hf3
    simp [Value.cells] at e3
    obtain ⟨rfl, rfl, rfl⟩ := e3
    by_cases hix : ix < 0 ∨ (n : Int) ≤ ix
    · exact lawC_out ad td bd len cap n tcap bl bcap Ls k ix s W hs hr hml hmn hmL hmb hmv hix
    · obtain ⟨i, rfl⟩ := Int.eq_ofNat_of_zero_le (show 0 ≤ ix by omega)
      exact lawC_main ad td bd len cap n tcap bl bcap Ls k i s W hs hr hb hml hmn hmL hmb hmv (by omega)
  clear hA0 hval0
  refine kw.mono fun e W' ⟨he, bel⟩ => ?_
  subst he
  exact ⟨_, rfl, _, _, _, [], _, [], hW', trodAll_mk1 (shut_bool Try.underlying4 _),
    (trodAll_cons_mk (Below.trod laidOut (by kernel_rfl) (of_decide_eq_true (by kernel_rfl)) h0 bel lt0)
      (trodAll_cons_mk (Below.trod laidOut (by kernel_rfl) (of_decide_eq_true (by kernel_rfl)) h1 bel lt1)
        (trodAll_cons_mk (Below.trod laidOut (by kernel_rfl) (of_decide_eq_true (by kernel_rfl)) h2 bel lt2)
          (trodAll_cons_mk (Below.trod laidOut (by kernel_rfl) (of_decide_eq_true (by kernel_rfl)) h3 bel lt3)
            (trodAll_cons_mk (Below.trod laidOut (by kernel_rfl) (of_decide_eq_true (by kernel_rfl)) h4 bel lt4)
              (trodAll_cons_mk (Below.trod laidOut (by kernel_rfl) (of_decide_eq_true (by kernel_rfl)) h5 bel lt5) trodAll_mk0)))))), rfl, bel.frame _, fun h => by cases h⟩

theorem over : Rows.fnCrashReachedExactlyWhenSomethingCameRow.holds Try.pinned (OpenSpec.ofChange Rows.fnCrashReachedExactlyWhenSomethingCameSpec) :=
  OpenClaim.holds_of_wide 7 Try.f7 rfl rfl rfl rfl rfl rfl rfl ⟨rfl, rfl, rfl, rfl, rfl⟩ rfl rfl rfl rfl rfl (by kernel_rfl) Try.func7 (by kernel_rfl)
    (of_decide_eq_true (by kernel_rfl)) (by unfold Func.isWrapper; first | (rw [if_pos (by decide +kernel)]; kernel_rfl) | (rw [if_neg (by decide +kernel)]; exact ⟨rfl, rfl⟩))
    (fun os started H enc _ => lifted os started H enc)

end Go.Proofs.Qxb6613846a.C
namespace Go.Proofs.Qxb6613846a

/-- THE STATEMENT. -/
theorem provedC : Rows.FnCrashReachedExactlyWhenSomethingCameSaid := C.over

end Go.Proofs.Qxb6613846a
