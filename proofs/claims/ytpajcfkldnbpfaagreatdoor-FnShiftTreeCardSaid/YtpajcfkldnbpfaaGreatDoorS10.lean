/- The closed facts of the row of FnShiftTree, each by itself. -/
import Derived.Test.YtpajcfkldnbpfaaGreatDoorS04
set_option linter.unusedSimpArgs false
set_option linter.unusedVariables false
namespace Go.Proofs.YtpajcfkldnbpfaaGreatDoor
open Go.ChangeShapes Go.WideShapes Go.ChangeAt Go.RowKit
theorem andS {a b : Bool} (h : a = true) (k : b = true) : (a && b) = true := by rw [h, k]; rfl
set_option maxHeartbeats 20000000 in
theorem shift_facts : joinedFacts Tryz.pinned.checked.prog 4 Tryz.f4 Rows.fnShiftTreeSpec Rows.fnShiftTreeRow = true := by
  unfold joinedFacts
  repeat' with_reducible apply andS
  all_goals (as_aux_lemma => kernel_rfl)
end Go.Proofs.YtpajcfkldnbpfaaGreatDoor
