import Derived.Test.Qxb6625470aDoorFnTraceListingCutAtRuleProof
import Derived.SevenTiedAt
namespace Go.Proofs.Qxb6625470aDoor
open Go

theorem cutFunc : Tryd.prog.funcNamed Rows.fnTraceListingCutAtRuleRow.func = some 4 := by kernel_rfl

/-- The tied card of FnTraceListingCutAtRule. -/
theorem fnTraceListingCutAtRule.proved : Rows.FnTraceListingCutAtRuleCardSaid :=
  Claim7.holds_tied_plain_at .later [] [.data, .data, .data, .sentinel] true Rows.fnTraceListingCutAtRuleCard.stood.harness true
    fnTraceListingCutAtRule_holds (fun _ h => by cases h) (by kernel_rfl) (fun _ h => by cases h) fnTraceListingCutAtRule_row_tie rfl ⟨rfl, rfl⟩ (by kernel_rfl) rfl
    (fun f fn hf hfn => by
      obtain rfl : f = 4 := Option.some.inj (cutFunc.symm.trans hf) |>.symm
      obtain rfl : fn = Tryd.f4 := (Option.some.inj (Tryd.func4.symm.trans hfn)).symm
      exact ⟨by kernel_rfl, fun j t ht => by
        rw [Tryd.params4] at ht
        have hm : t ∈ [22, 22, 23, 24, 25, 23, 3] := by simpa using Array.mem_of_getElem? ht
        have hall : ([22, 22, 23, 24, 25, 23, 3].all fun u => !Tryd.prog.wantsStandIn u) = true := by kernel_rfl
        exact (show Tryd.prog.wantsStandIn t = false by simpa using List.all_eq_true.1 hall t hm)⟩)
    (by kernel_rfl)
end Go.Proofs.Qxb6625470aDoor
