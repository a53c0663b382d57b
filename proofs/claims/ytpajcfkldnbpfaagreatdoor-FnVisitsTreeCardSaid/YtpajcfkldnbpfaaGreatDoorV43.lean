/- Proved: Rows.FnVisitsTreeCardSaid, the full and tied card of the law FnVisitsTree: it returns true for every tree, and keeps its argument. Conditions: none beyond the statement itself. The row of FnVisitsTree, given its contract. The card of FnVisitsTree, given its contract. -/
import Derived.Test.YtpajcfkldnbpfaaGreatDoorV42
import Derived.Test.YtpajcfkldnbpfaaGreatDoorV41
set_option linter.unusedSimpArgs false
set_option linter.unusedVariables false
namespace Go.Proofs.YtpajcfkldnbpfaaGreatDoor
open Go.ChangeShapes Go.WideShapes Go.ChangeAt Go.RowKit
theorem visits_wrap : Tryz.f3.isWrapper Tryz.pinned.checked.prog Rows.fnVisitsTreeRow.wrapper Rows.fnVisitsTreeRow.mainSum := by unfold Func.isWrapper; first | (rw [if_pos (by decide +kernel)]; kernel_rfl) | (rw [if_neg (by decide +kernel)]; exact ⟨rfl, rfl⟩)
theorem visits_named : Tryz.pinned.checked.prog.funcNamed Rows.fnVisitsTreeRow.func = some 3 := by kernel_rfl
theorem visits_inst : Tryz.f3.isInstance Tryz.pinned.checked.prog Rows.fnVisitsTreeRow.origin Rows.fnVisitsTreeRow.targs := of_decide_eq_true (by kernel_rfl)
theorem visits_row (hC : Con3) : Rows.FnVisitsTreeSaid :=
  OpenClaim.holds_of_wide 3 Tryz.f3 rfl rfl rfl rfl rfl rfl rfl ⟨rfl, rfl, rfl, rfl, rfl⟩ rfl rfl rfl rfl rfl visits_named Tryz.func3 visits_facts visits_inst visits_wrap
    (fun os started H enc _ => visits_lifted hC os started H enc)
end Go.Proofs.YtpajcfkldnbpfaaGreatDoor
namespace Go.Proofs.YtpajcfkldnbpfaaGreatDoor
open Go.ChangeShapes Go.WideShapes Go.ChangeAt Go.RowKit
theorem stand24 : Tryz.prog.wantsStandIn 24 = false := by kernel_rfl
set_option maxHeartbeats 20000000 in
theorem visits_card (hC : Con3) : Rows.FnVisitsTreeCardSaid :=
  Claim7.holds_tied_plain_at .later [] [.data, .data, .widerDeep, .widerDeep, .data, .data, .data, .data, .data, .sentinel, .sentinel, .pinned, .pinned] true (true, "3d9a056884a173d6454b117ff71bdf05e22d6b8e5ff112afcd31d06b35d721f7") true (visits_row hC) (fun _ h => by cases h) (by as_aux_lemma => kernel_rfl) (fun _ h => by cases h) fnVisitsTree_row_tie rfl ⟨rfl, rfl⟩ (by as_aux_lemma => kernel_rfl) rfl
    (fun f fn hf hfn => by
      obtain rfl : f = 3 := Option.some.inj (visits_named.symm.trans hf) |>.symm
      obtain rfl : fn = Tryz.f3 := (Option.some.inj (Tryz.func3.symm.trans hfn)).symm
      exact ⟨by as_aux_lemma => kernel_rfl, fun j t ht => by
        rw [Tryz.params3] at ht
        have hm : t ∈ [24] := by simpa using Array.mem_of_getElem? ht
        obtain rfl : t = 24 := by simpa using hm
        exact stand24⟩)
    (by as_aux_lemma => kernel_rfl)
end Go.Proofs.YtpajcfkldnbpfaaGreatDoor
namespace Go.Proofs.YtpajcfkldnbpfaaGreatDoor
theorem fnVisitsTree_holds : Rows.FnVisitsTreeCardSaid := visits_card con3
#print axioms fnVisitsTree_holds
end Go.Proofs.YtpajcfkldnbpfaaGreatDoor
