/- FnVisitsTree's contract. -/
import Derived.Test.YtpajcfkldnbpfaaGreatDoorV30
import Derived.Test.YtpajcfkldnbpfaaGreatDoorV40
set_option linter.unusedSimpArgs false
set_option linter.unusedVariables false
namespace Go.Proofs.YtpajcfkldnbpfaaGreatDoor
open Go.RowKit
theorem floatN_size {s : ByteArray} (h : FloatN s) : s.size ≤ 1000 := by
  obtain ⟨t, ⟨a, b, e, ha, hb⟩, h2⟩ := h
  have h3 := dgsB_size ha.1
  have h4 := dgsB_size hb
  have h5 : t.size ≤ 30 := by
    have e2 := congrArg List.length e
    simp at e2
    omega
  rcases h2 with rfl | rfl
  · omega
  · have e3 : (minus t).size = t.data.toList.length + 1 := by
      show ((45 :: t.data.toList).toArray).size = _
      rw [List.size_toArray, List.length_cons]
    have e4 : t.data.toList.length = t.size := by simp
    omega
theorem con3 : Con3 := fun h k p c w0 hi hk hkc hs hT => fnVisits_any floatsOK (fun s hs => pfc_float hs (floatN_size hs)) (fun s hs hp w hT => left_any nameV s w (.inl rfl) hs hp hT) h k p c w0 hi hk hkc hs hT
#print axioms con3
end Go.Proofs.YtpajcfkldnbpfaaGreatDoor
