import Derived.Test.Qxb6613846aProofS
import Derived.Test.Qxb6613846aLawN
namespace Go.Proofs.Qxb6613846a
open Go.ChangeShapes Go.WideShapes Go.ChangeAt Go.RowKit
set_option linter.unusedVariables false

set_option maxHeartbeats 1000000 in
set_option maxRecDepth 100000 in
theorem lawN_out (ad : Option Addr) (len cap : Nat) (cs : List (Option Cr)) (r cut : Int) (rd : Option Addr) (rlen rcap : Nat) (w : World) (hp : Ptrs w ad len cs) (hml : len ≤ maxLen) (hcm : ∀ c, some c ∈ cs → c.len ≤ maxLen) (hrm : rlen ≤ maxLen) (hc : cut < 0 ∨ (len : Int) < cut) :
    Calls Try.prog 6 #[.slice ad len cap, .int .i64 r, .int .i64 cut, .slice rd rlen rcap] w fun e w' => e = .returned (.bool true) ∧ Below w.heap.size w w' := by
  have hl2 : Hid (cs.length = len) := hp.length
  go_enter Try.func6, Try.ntmps6
  go_wp2_with fail
  refine (bytesI_any ad len cap cs _ _ rd rlen rcap _ hp hml hcm hrm).mono ?_
  rintro e w1 ⟨⟨b, rfl, hbd⟩, hw⟩
  subst w1
  cases b
  · go_wp2_with fail
    go_ret
    exact ⟨rfl, Below.refl _ _⟩
  obtain ⟨⟨hlen, hsm0⟩, hrl⟩ := hbd rfl
  have hsm : ∀ c, some c ∈ cs → c.len ≤ 1048576 := small_of (fun i hi => hsm0 i (by rw [← hl2.out]; exact hi))
  clear hbd hsm0 hcm hml hrm
  go_wp2_with fail
  refine (ptrBytes_any ad len cap cs _ hp hlen hsm).mono ?_
  rintro e w1 ⟨t, rfl, t0, t1, hw⟩
  subst w1
  go_wp2_with fail
  refine (add_any _ _ _ _ (by omega) (by omega) (by omega) (by omega)).mono ?_
  rintro e w1 ⟨t2, rfl, t20, t21, -, hw⟩
  subst w1
  by_cases ht : 1048576 < t2
  · go_wp2_with fail
    go_ret
    exact ⟨rfl, Below.refl _ _⟩
  by_cases h0 : cut < 0
  · go_wp2_with fail
    go_ret
    exact ⟨rfl, Below.refl _ _⟩
  · have h1 : (len : Int) < cut := by omega
    go_wp2_with fail
    go_ret
    exact ⟨rfl, Below.refl _ _⟩

theorem lawN_walk (ad : Option Addr) (len cap : Nat) (cs : List (Option Cr)) (r cut : Int) (rd : Option Addr) (rlen rcap : Nat) (zs : List Int) (w : World) (hp : Ptrs w ad len cs) (hml : len ≤ maxLen) (hcm : ∀ c, some c ∈ cs → c.len ≤ maxLen) (hz : Ints w rd rlen zs) (hrm : rlen ≤ maxLen) :
    Calls Try.prog 6 #[.slice ad len cap, .int .i64 r, .int .i64 cut, .slice rd rlen rcap] w fun e w' => e = .returned (.bool true) ∧ Below w.heap.size w w' := by
  by_cases hc : cut < 0 ∨ (len : Int) < cut
  · exact lawN_out ad len cap cs r cut rd rlen rcap w hp hml hcm hrm hc
  · obtain ⟨c, rfl⟩ := Int.eq_ofNat_of_zero_le (show 0 ≤ cut by omega)
    exact lawN_main ad len cap cs r c rd rlen rcap zs w hp hml hcm hz hrm (by omega)

set_option maxRecDepth 100000 in
theorem liftedN (os : Os) (started : os.Started) (H : Type) (enc : TypeId × Value → H) :
    ReturnsInHanded {} Try.checked os 6 .any (Rows.fnReportCrashesInsertOneSpec.pre6 enc Try.prog Try.f6 Rows.fnReportCrashesInsertOneRow.domain false) (Rows.fnReportCrashesInsertOneSpec.post enc Try.prog Try.f6 false true false false) := by
  refine returnsInHanded_of_change (C := Try.checked) own started (by kernel_rfl) Try.func6
    (ChangeSpec.witness6 (enc := enc) (C := Try.checked) false ⟨#[], #[.slice none 0 0, .int .i64 0, .int .i64 0, .slice none 0 0], []⟩ 8 (by kernel_rfl) (by kernel_rfl) (by kernel_rfl) (by kernel_rfl)) ?_
  intro W base args ds gs before hval0 hW hcnd _
  have hval : ∀ (j : Nat) t v, Try.f6.params[j]? = some t → args[j]? = some v → Value.okWide Try.prog W .any base t v := hval0
  have hW' := hW
  obtain ⟨p, q, hA0, hV, rfl, hfz, hnd⟩ := hW
  have hA : DataW.TrodAll enc Try.prog W 0 (fun _ => true) true Try.f6.params.toList args.toList ds p := hA0
  rw [Try.params6] at hA hval
  obtain ⟨v0, vs0, d0, ds0, p0, q0, hargs, rfl, rfl, h0, r0⟩ := trodAll_cons hA
  obtain ⟨v1, vs1, d1, ds1, p1, q1, rfl, rfl, rfl, h1, r1⟩ := trodAll_cons r0
  obtain ⟨v2, vs2, d2, ds2, p2, q2, rfl, rfl, rfl, h2, r2⟩ := trodAll_cons r1
  obtain ⟨v3, vs3, d3, ds3, p3, q3, rfl, rfl, rfl, h3, r3⟩ := trodAll_cons r2
  obtain ⟨rfl, rfl, rfl⟩ := trodAll_nil r3
  obtain rfl : args = #[v0, v1, v2, v3] := by cases args; simp_all
  obtain ⟨rfl, rfl⟩ := trodVars_none hV
  have lt0 : ∀ x ∈ p0, x.block < W.heap.size := by obtain ⟨m, hm⟩ := h0; exact DataW.trod_lt m _ _ _ hm
  have lt1 : ∀ x ∈ p1, x.block < W.heap.size := by obtain ⟨m, hm⟩ := h1; exact DataW.trod_lt m _ _ _ hm
  have lt2 : ∀ x ∈ p2, x.block < W.heap.size := by obtain ⟨m, hm⟩ := h2; exact DataW.trod_lt m _ _ _ hm
  have lt3 : ∀ x ∈ p3, x.block < W.heap.size := by obtain ⟨m, hm⟩ := h3; exact DataW.trod_lt m _ _ _ hm
  have kw : Calls Try.prog 6 #[v0, v1, v2, v3] W fun e w' => e = .returned (.bool true) ∧ Below W.heap.size W w' := by
    obtain ⟨ad, len, cap, cs, rfl, hm, hml, hcm⟩ := open_crashes (hval 0 49 v0 rfl rfl) h0
    obtain ⟨r, rfl, _, _, _⟩ := open_int Try.underlying3 (hval 1 3 v1 rfl rfl) h1
    obtain ⟨cut, rfl, _, _, _⟩ := open_int Try.underlying3 (hval 2 3 v2 rfl rfl) h2
    obtain ⟨rd, rlen, rcap, rfl⟩ := okWide_slice Try.underlying57 (hval 3 57 v3 rfl rfl)
    obtain ⟨fuel, hf3⟩ := h3
    obtain ⟨rd', rlen', rcap', zs, e3, hrm, hz⟩ := open_intsCell hf3
    simp [Value.cells] at e3
    obtain ⟨rfl, rfl, rfl⟩ := e3
    exact lawN_walk ad len cap cs r cut rd rlen rcap zs W hm hml hcm hz hrm
  clear hA0 hval0
  refine kw.mono fun e W' ⟨he, bel⟩ => ?_
  subst he
  exact ⟨_, rfl, _, _, _, [], _, [], hW', trodAll_mk1 (shut_bool Try.underlying4 _),
    (trodAll_cons_mk (Below.trod laidOut (by kernel_rfl) (of_decide_eq_true (by kernel_rfl)) h0 bel lt0)
      (trodAll_cons_mk (Below.trod laidOut (by kernel_rfl) (of_decide_eq_true (by kernel_rfl)) h1 bel lt1)
        (trodAll_cons_mk (Below.trod laidOut (by kernel_rfl) (of_decide_eq_true (by kernel_rfl)) h2 bel lt2)
          (trodAll_cons_mk (Below.trod laidOut (by kernel_rfl) (of_decide_eq_true (by kernel_rfl)) h3 bel lt3) trodAll_mk0)))), rfl, bel.frame _, fun h => by cases h⟩

theorem overN : Rows.fnReportCrashesInsertOneRow.holds Try.pinned (OpenSpec.ofChange Rows.fnReportCrashesInsertOneSpec) :=
  OpenClaim.holds_of_wide 6 Try.f6 rfl rfl rfl rfl rfl rfl rfl ⟨rfl, rfl, rfl, rfl, rfl⟩ rfl rfl rfl rfl rfl (by kernel_rfl) Try.func6 (by kernel_rfl)
    (of_decide_eq_true (by kernel_rfl)) (by unfold Func.isWrapper; first | (rw [if_pos (by decide +kernel)]; kernel_rfl) | (rw [if_neg (by decide +kernel)]; exact ⟨rfl, rfl⟩))
    (fun os started H enc _ => liftedN os started H enc)

/-- THE STATEMENT. -/
theorem provedN : Rows.FnReportCrashesInsertOneSaid := overN

end Go.Proofs.Qxb6613846a
