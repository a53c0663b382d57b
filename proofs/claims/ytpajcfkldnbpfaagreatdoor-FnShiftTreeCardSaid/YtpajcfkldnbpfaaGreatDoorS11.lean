/- Proved: Rows.FnShiftTreeCardSaid, the full and tied card of the law FnShiftTree: it returns true for every tree and every number of columns, and keeps its arguments. Conditions: none beyond the statement itself. FnVisitsTree's contract. The row of FnShiftTree, given its contract. The card of FnShift -/
import Derived.Test.YtpajcfkldnbpfaaGreatDoorS04
import Derived.Test.YtpajcfkldnbpfaaGreatDoorS02
import Derived.Test.YtpajcfkldnbpfaaGreatDoorS10
import Derived.Test.YtpajcfkldnbpfaaGreatDoorS09
set_option linter.unusedSimpArgs false
set_option linter.unusedVariables false
namespace Go.Proofs.YtpajcfkldnbpfaaGreatDoor
open Go.RowKit
theorem floatN_size {s : ByteArray} (h : FloatN s) : s.size ≤ 1000 := by
  obtain ⟨t, ⟨a, b, e, ha, hb⟩, h2⟩ := h
  have h3 := dgsB_size ha.1
  have h4 := dgsB_size hb
  have h5 : t.size ≤ 30 := by
    have e2 := congrArg List.length e
    simp at e2
    omega
  rcases h2 with rfl | rfl
  · omega
  · have e3 : (minus t).size = t.data.toList.length + 1 := by
      show ((45 :: t.data.toList).toArray).size = _
      rw [List.size_toArray, List.length_cons]
    have e4 : t.data.toList.length = t.size := by simp
    omega
end Go.Proofs.YtpajcfkldnbpfaaGreatDoor
namespace Go.Proofs.YtpajcfkldnbpfaaGreatDoor
open Go.ChangeShapes Go.WideShapes Go.ChangeAt Go.RowKit
theorem shift_wrap : Tryz.f4.isWrapper Tryz.pinned.checked.prog Rows.fnShiftTreeRow.wrapper Rows.fnShiftTreeRow.mainSum := by unfold Func.isWrapper; first | (rw [if_pos (by decide +kernel)]; kernel_rfl) | (rw [if_neg (by decide +kernel)]; exact ⟨rfl, rfl⟩)
theorem shift_named : Tryz.pinned.checked.prog.funcNamed Rows.fnShiftTreeRow.func = some 4 := by kernel_rfl
theorem shift_inst : Tryz.f4.isInstance Tryz.pinned.checked.prog Rows.fnShiftTreeRow.origin Rows.fnShiftTreeRow.targs := of_decide_eq_true (by kernel_rfl)
theorem shift_row (hC : Con4) : Rows.FnShiftTreeSaid :=
  OpenClaim.holds_of_wide 4 Tryz.f4 rfl rfl rfl rfl rfl rfl rfl ⟨rfl, rfl, rfl, rfl, rfl⟩ rfl rfl rfl rfl rfl shift_named Tryz.func4 shift_facts shift_inst shift_wrap
    (fun os started H enc _ => shift_lifted hC os started H enc)
end Go.Proofs.YtpajcfkldnbpfaaGreatDoor
namespace Go.Proofs.YtpajcfkldnbpfaaGreatDoor
open Go.ChangeShapes Go.WideShapes Go.ChangeAt Go.RowKit
theorem stand24S : Tryz.prog.wantsStandIn 24 = false := by kernel_rfl
theorem stand3 : Tryz.prog.wantsStandIn 3 = false := by kernel_rfl
set_option maxHeartbeats 20000000 in
theorem shift_card (hC : Con4) : Rows.FnShiftTreeCardSaid :=
  Claim7.holds_tied_plain_at .later [] [.data, .data, .widerDeep, .widerDeep, .data, .data, .data, .data, .data, .sentinel, .sentinel, .pinned, .pinned] true (true, "3d9a056884a173d6454b117ff71bdf05e22d6b8e5ff112afcd31d06b35d721f7") true (shift_row hC) (fun _ h => by cases h) (by as_aux_lemma => kernel_rfl) (fun _ h => by cases h) fnShiftTree_row_tie rfl ⟨rfl, rfl⟩ (by as_aux_lemma => kernel_rfl) rfl
    (fun f fn hf hfn => by
      obtain rfl : f = 4 := Option.some.inj (shift_named.symm.trans hf) |>.symm
      obtain rfl : fn = Tryz.f4 := (Option.some.inj (Tryz.func4.symm.trans hfn)).symm
      exact ⟨by as_aux_lemma => kernel_rfl, fun j t ht => by
        rw [Tryz.params4] at ht
        have hm : t ∈ [24, 3] := by simpa using Array.mem_of_getElem? ht
        simp only [List.mem_cons, List.not_mem_nil, or_false] at hm
        rcases hm with rfl | rfl
        · exact stand24S
        · exact stand3⟩)
    (by as_aux_lemma => kernel_rfl)
end Go.Proofs.YtpajcfkldnbpfaaGreatDoor
namespace Go.Proofs.YtpajcfkldnbpfaaGreatDoor
open Go.RowKit
theorem con4 : Con4 := fun n h k p c w0 hi hk hkc hs hT => fnShift_any floatsOK (fun s hs => pfc_float hs (floatN_size hs)) (fun s hs hp w hT => left_any nameS s w (.inr rfl) hs hp hT) n h k p c w0 hi hk hkc hs hT
theorem fnShiftTree_holds : Rows.FnShiftTreeCardSaid := shift_card con4
end Go.Proofs.YtpajcfkldnbpfaaGreatDoor
