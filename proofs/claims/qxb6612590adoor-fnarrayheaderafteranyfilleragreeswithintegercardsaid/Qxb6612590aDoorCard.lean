import Derived.Test.Qxb6612590aDoorProof
namespace Go.Proofs.Qxb6612590aDoor
open Go
set_option linter.unusedVariables false

/-- THE STATEMENT: the tied card. -/
theorem provedA : Rows.FnArrayHeaderAfterAnyFillerAgreesWithIntegerCardSaid :=
  Claim7.holds_tied_plain_at .later [] [.data, .data, .data, .sentinel] true (true, "8d0b622de4ae6ef26fc16a1fd6873f1eda925f15d05235e2e14841f021a6e375") true
    over (fun _ h => by cases h) (by kernel_rfl) (fun _ h => by cases h) fnArrayHeaderAfterAnyFillerAgreesWithInteger_row_tie rfl ⟨rfl, rfl⟩ (by kernel_rfl) rfl
    (fun f fn hf hfn => by
      obtain rfl : f = 4 := Option.some.inj ((show Tryd.prog.funcNamed "example.com/shardwright/shardwright/zzlaws_internal_resp_b1.FnArrayHeaderAfterAnyFillerAgreesWithInteger" = some 4 by kernel_rfl).symm.trans hf) |>.symm
      obtain rfl : fn = Tryd.f4 := (Option.some.inj (Tryd.func4.symm.trans hfn)).symm
      exact ⟨by kernel_rfl, fun j t ht => by
        rw [Tryd.params4] at ht
        have hm : t ∈ [24, 3] := by simpa using Array.mem_of_getElem? ht
        have hall : ([24, 3].all fun u => !Tryd.prog.wantsStandIn u) = true := by kernel_rfl
        exact (show Tryd.prog.wantsStandIn t = false by simpa using List.all_eq_true.1 hall t hm)⟩)
    (by kernel_rfl)

end Go.Proofs.Qxb6612590aDoor
