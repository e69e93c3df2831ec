import Derived.Test.Qxb6613846aRows
import Derived.Test.Qxb6613846aLawS
import Derived.WalkKit
import Derived.ProofKit
import Derived.OpenShut
import Derived.ShutString
import Derived.ChangeOld
import Derived.Below
import Derived.Deep.Slices
import Derived.Deep.Fields23
import Derived.Lib.SmallJoins
namespace Go.Proofs.Qxb6613846a
open Go.ChangeShapes Go.WideShapes Go.ChangeAt Go.RowKit
set_option linter.unusedVariables false

theorem own : ownKnob Try.prog.godebug = none := by kernel_rfl
theorem laidOut : laidOutB Try.prog = true := by kernel_rfl
theorem cells56 : Try.prog.cellsOf 56 = 1 := by kernel_rfl
theorem cells3 : Try.prog.cellsOf 3 = 1 := by kernel_rfl

set_option maxHeartbeats 1000000 in
set_option maxRecDepth 100000 in
theorem lawS_out (ad : Option Addr) (len cap : Nat) (cs : List (Option Cr)) (r cut : Int) (w : World) (hp : Ptrs w ad len cs) (hml : len ≤ maxLen) (hcm : ∀ c, some c ∈ cs → c.len ≤ maxLen) (hc : cut < 0 ∨ (len : Int) < cut) :
    Calls Try.prog 5 #[.slice ad len cap, .int .i64 r, .int .i64 cut] w fun e w' => e = .returned (.bool true) ∧ Below w.heap.size w w' := by
  have hl2 : Hid (cs.length = len) := hp.length
  go_enter Try.func5, Try.ntmps5
  go_wp2_with fail
  refine (bytesS_any ad len cap cs _ _ _ hp hml hcm).mono ?_
  rintro e w1 ⟨⟨b, rfl, hbd⟩, hw⟩
  subst w1
  cases b
  · go_wp2_with fail
    go_ret
    exact ⟨rfl, Below.refl _ _⟩
  obtain ⟨hlen, hsm0⟩ := hbd rfl
  have hsm : ∀ c, some c ∈ cs → c.len ≤ 1048576 := small_of (fun i hi => hsm0 i (by rw [← hl2.out]; exact hi))
  clear hbd hsm0 hcm hml
  go_wp2_with fail
  refine (ptrBytes_any ad len cap cs _ hp hlen hsm).mono ?_
  rintro e w1 ⟨t, rfl, t0, t1, hw⟩
  subst w1
  by_cases ht : 1048576 < t
  · go_wp2_with fail
    go_ret
    exact ⟨rfl, Below.refl _ _⟩
  by_cases h0 : cut < 0
  · go_wp2_with fail
    go_ret
    exact ⟨rfl, Below.refl _ _⟩
  · have h1 : (len : Int) < cut := by omega
    go_wp2_with fail
    go_ret
    exact ⟨rfl, Below.refl _ _⟩

theorem lawS_walk (ad : Option Addr) (len cap : Nat) (cs : List (Option Cr)) (r cut : Int) (w : World) (hp : Ptrs w ad len cs) (hml : len ≤ maxLen) (hcm : ∀ c, some c ∈ cs → c.len ≤ maxLen) :
    Calls Try.prog 5 #[.slice ad len cap, .int .i64 r, .int .i64 cut] w fun e w' => e = .returned (.bool true) ∧ Below w.heap.size w w' := by
  by_cases hc : cut < 0 ∨ (len : Int) < cut
  · exact lawS_out ad len cap cs r cut w hp hml hcm hc
  · obtain ⟨c, rfl⟩ := Int.eq_ofNat_of_zero_le (show 0 ≤ cut by omega)
    exact lawS_main ad len cap cs r c w hp hml hcm (by omega)

/-- A slice of ints, by its cell. -/
theorem open_intsCell {H : Type} {enc : TypeId × Value → H} {w : World} {held : Bool} {n : Nat} {cs : List Value} {y : DataW H × List MemPlace}
    (h : DataW.trod enc Try.prog w 0 (fun _ => true) held n 57 cs = some y) : ∃ ad len cap zs, cs = [.slice ad len cap] ∧ len ≤ maxLen ∧ Ints w ad len zs := by
  rcases open_ints Try.underlying57 Try.underlying3 cells3 h with ⟨hcs, _⟩ | ⟨x, l, c, zs, hcs, _, hl, hm, hz, _, hcell, hwz⟩
  · exact ⟨none, 0, 0, [], hcs, Nat.zero_le _, rfl, fun i hi => absurd hi (Nat.not_lt_zero _)⟩
  · refine ⟨some x, l, c, zs.take l, hcs, Nat.le_trans hl hm, ⟨?_, fun i hi => ?_⟩⟩
    · simp at hz; rw [List.length_take]; omega
    · simp at hz
      have h0 := hcell i (by omega)
      have z := hcell 0 (by omega)
      obtain ⟨b, off, spot⟩ := x
      have hspot : spot = none := by simpa [Addr.add] using World.cell?_spot z
      subst hspot
      rw [Go.WideShapes.add_plain] at h0
      refine ⟨b, off, rfl, ?_⟩
      have e : (zs.take l).getD i 0 = zs.getD i 0 := by simp [List.getD_eq_getElem?_getD, hi]
      rw [e]; exact h0

/-- One pointer to a crash that came in. -/
theorem open_crash {H : Type} {enc : TypeId × Value → H} {w : World} {held : Bool} {n : Nat} {v : Value} {y : DataW H × List MemPlace}
    (h : DataW.trod enc Try.prog w 0 (fun _ => true) held n 56 [v] = some y) : ∃ x : Option Cr, PtrTo w v x ∧ ∀ c, x = some c → c.len ≤ maxLen := by
  rcases Go.Deep.open_ptr_fields3 Try.underlying56 Try.underlying59 (by kernel_rfl) (by kernel_rfl) h with ⟨hcs, _⟩ | ⟨b, o, m, v0, v1, v2, y0, y1, y2, hcs, _, _, c0, c1, c2, t0, t1, t2⟩
  · simp at hcs
    exact ⟨none, hcs, fun c hc => by cases hc⟩
  · simp at hcs
    obtain ⟨p, e0, _, _⟩ := DataW.trod_int Try.underlying3 t0
    obtain ⟨r, e1, _, _⟩ := DataW.trod_int Try.underlying3 t1
    obtain ⟨ad, len, cap, zs, e2, hl, hz⟩ := open_intsCell t2
    simp at e0 e1 e2
    subst e0 e1 e2
    exact ⟨some ⟨p, r, ad, len, cap⟩, ⟨b, o, hcs, ⟨c0, c1, c2, zs, hz⟩⟩, fun c hc => by cases hc; exact hl⟩

set_option maxRecDepth 100000 in
/-- The slice of pointers to crashes that came in. -/
theorem open_crashes {H : Type} {enc : TypeId × Value → H} {w : World} {r : Reach} {b0 : Nat} {held : Bool} {v : Value} {d : DataW H} {p : List MemPlace}
    (hv : Value.okWide Try.prog w r b0 49 v) (h : DataW.Trod enc Try.prog w 0 (fun _ => true) held 49 v d p) : ∃ ad len cap cs, v = .slice ad len cap ∧ Ptrs w ad len cs ∧ len ≤ maxLen ∧ ∀ c, some c ∈ cs → c.len ≤ maxLen := by
  obtain ⟨ad, len, cap, rfl⟩ := okWide_slice Try.underlying49 hv
  obtain ⟨fuel, hf⟩ := h
  rcases Go.Deep.open_slice1 Try.underlying49 cells56 hf with ⟨hcs, _⟩ | ⟨a, l, c, m, n, V, D, Pl, hcs, _, hlc, hcm, hmm, _, hx⟩
  · simp [Value.cells] at hcs
    obtain ⟨rfl, rfl, rfl⟩ := hcs
    exact ⟨none, 0, 0, [], rfl, Ptrs.empty _ _, Nat.zero_le _, fun c hc => by simp at hc⟩
  · simp [Value.cells] at hcs
    obtain ⟨rfl, rfl, rfl⟩ := hcs
    simp only [if_true] at hmm
    subst hmm
    obtain ⟨q, hq⟩ := Go.Deep.choose_lt (fun i (hi : i < m) => open_crash (hx i hi).2)
    refine ⟨some a, len, m, (List.range len).map q, rfl, ⟨by simp, fun i hi => ?_⟩, Nat.le_trans hlc hcm, fun c hc => ?_⟩
    · have z := (hx 0 (by omega)).1
      have c0 := (hx i (by omega)).1
      obtain ⟨b, off, spot⟩ := a
      have hspot : spot = none := by simpa [Addr.add] using World.cell?_spot z
      subst hspot
      rw [Go.WideShapes.add_plain] at c0
      have e : ((List.range len).map q).getD i none = q i := by simp [List.getD_eq_getElem?_getD, hi]
      rw [e]
      refine ⟨b, off, rfl, ?_⟩
      have h1 := (hq i (by omega)).1
      cases hqi : q i with
      | none => rw [hqi] at h1; show w.cell? _ = _; rw [c0, h1]
      | some x =>
        rw [hqi] at h1
        obtain ⟨pb, po, e1, hcr⟩ := h1
        exact ⟨pb, po, by rw [c0, e1], hcr⟩
    · simp only [List.mem_map, List.mem_range] at hc
      obtain ⟨i, hi, e⟩ := hc
      exact (hq i (by omega)).2 c e

set_option maxRecDepth 100000 in
theorem liftedS (os : Os) (started : os.Started) (H : Type) (enc : TypeId × Value → H) :
    ReturnsInHanded {} Try.checked os 5 .any (Rows.fnReportCrashesSplitsAtAnyCutSpec.pre6 enc Try.prog Try.f5 Rows.fnReportCrashesSplitsAtAnyCutRow.domain false) (Rows.fnReportCrashesSplitsAtAnyCutSpec.post enc Try.prog Try.f5 false true false false) := by
  refine returnsInHanded_of_change (C := Try.checked) own started (by kernel_rfl) Try.func5
    (ChangeSpec.witness6 (enc := enc) (C := Try.checked) false ⟨#[], #[.slice none 0 0, .int .i64 0, .int .i64 0], []⟩ 8 (by kernel_rfl) (by kernel_rfl) (by kernel_rfl) (by kernel_rfl)) ?_
  intro W base args ds gs before hval0 hW hcnd _
  have hval : ∀ (j : Nat) t v, Try.f5.params[j]? = some t → args[j]? = some v → Value.okWide Try.prog W .any base t v := hval0
  have hW' := hW
  obtain ⟨p, q, hA0, hV, rfl, hfz, hnd⟩ := hW
  have hA : DataW.TrodAll enc Try.prog W 0 (fun _ => true) true Try.f5.params.toList args.toList ds p := hA0
  rw [Try.params5] at hA hval
  obtain ⟨v0, vs0, d0, ds0, p0, q0, hargs, rfl, rfl, h0, r0⟩ := trodAll_cons hA
  obtain ⟨v1, vs1, d1, ds1, p1, q1, rfl, rfl, rfl, h1, r1⟩ := trodAll_cons r0
  obtain ⟨v2, vs2, d2, ds2, p2, q2, rfl, rfl, rfl, h2, r2⟩ := trodAll_cons r1
  obtain ⟨rfl, rfl, rfl⟩ := trodAll_nil r2
  obtain rfl : args = #[v0, v1, v2] := by cases args; simp_all
  obtain ⟨rfl, rfl⟩ := trodVars_none hV
  have lt0 : ∀ x ∈ p0, x.block < W.heap.size := by obtain ⟨m, hm⟩ := h0; exact DataW.trod_lt m _ _ _ hm
  have lt1 : ∀ x ∈ p1, x.block < W.heap.size := by obtain ⟨m, hm⟩ := h1; exact DataW.trod_lt m _ _ _ hm
  have lt2 : ∀ x ∈ p2, x.block < W.heap.size := by obtain ⟨m, hm⟩ := h2; exact DataW.trod_lt m _ _ _ hm
  have kw : Calls Try.prog 5 #[v0, v1, v2] W fun e w' => e = .returned (.bool true) ∧ Below W.heap.size W w' := by
    obtain ⟨ad, len, cap, cs, rfl, hm, hml, hcm⟩ := open_crashes (hval 0 49 v0 rfl rfl) h0
    obtain ⟨r, rfl, _, _, _⟩ := open_int Try.underlying3 (hval 1 3 v1 rfl rfl) h1
    obtain ⟨cut, rfl, _, _, _⟩ := open_int Try.underlying3 (hval 2 3 v2 rfl rfl) h2
    exact lawS_walk ad len cap cs r cut W hm hml hcm
  clear hA0 hval0
  refine kw.mono fun e W' ⟨he, bel⟩ => ?_
  subst he
  exact ⟨_, rfl, _, _, _, [], _, [], hW', trodAll_mk1 (shut_bool Try.underlying4 _),
    (trodAll_cons_mk (Below.trod laidOut (by kernel_rfl) (of_decide_eq_true (by kernel_rfl)) h0 bel lt0)
      (trodAll_cons_mk (Below.trod laidOut (by kernel_rfl) (of_decide_eq_true (by kernel_rfl)) h1 bel lt1)
        (trodAll_cons_mk (Below.trod laidOut (by kernel_rfl) (of_decide_eq_true (by kernel_rfl)) h2 bel lt2) trodAll_mk0))), rfl, bel.frame _, fun h => by cases h⟩

theorem overS : Rows.fnReportCrashesSplitsAtAnyCutRow.holds Try.pinned (OpenSpec.ofChange Rows.fnReportCrashesSplitsAtAnyCutSpec) :=
  OpenClaim.holds_of_wide 5 Try.f5 rfl rfl rfl rfl rfl rfl rfl ⟨rfl, rfl, rfl, rfl, rfl⟩ rfl rfl rfl rfl rfl (by kernel_rfl) Try.func5 (by kernel_rfl)
    (of_decide_eq_true (by kernel_rfl)) (by unfold Func.isWrapper; first | (rw [if_pos (by decide +kernel)]; kernel_rfl) | (rw [if_neg (by decide +kernel)]; exact ⟨rfl, rfl⟩))
    (fun os started H enc _ => liftedS os started H enc)

/-- THE STATEMENT. -/
theorem provedS : Rows.FnReportCrashesSplitsAtAnyCutSaid := overS

end Go.Proofs.Qxb6613846a
