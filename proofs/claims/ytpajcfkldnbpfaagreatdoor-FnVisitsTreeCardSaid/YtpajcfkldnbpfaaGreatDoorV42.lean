/- The closed facts of the row of FnVisitsTree, each by itself. -/
import Derived.Test.YtpajcfkldnbpfaaGreatDoorV30
set_option linter.unusedSimpArgs false
set_option linter.unusedVariables false
namespace Go.Proofs.YtpajcfkldnbpfaaGreatDoor
open Go.ChangeShapes Go.WideShapes Go.ChangeAt Go.RowKit
theorem andT {a b : Bool} (h : a = true) (k : b = true) : (a && b) = true := by rw [h, k]; rfl
set_option maxHeartbeats 20000000 in
theorem visits_facts : joinedFacts Tryz.pinned.checked.prog 3 Tryz.f3 Rows.fnVisitsTreeSpec Rows.fnVisitsTreeRow = true := by
  unfold joinedFacts
  repeat' with_reducible apply andT
  all_goals (as_aux_lemma => kernel_rfl)
end Go.Proofs.YtpajcfkldnbpfaaGreatDoor
