/- The row and the card of FnVisitsTree, given its contract. -/
import Derived.Test.YtpajcfkldnbpfaaGreatDoorV29
import Derived.Test.YtpajcfkldnbpfaaGreatDoorTie
import Derived.Test.YtpajcfkldnbpfaaGreatDoorCards
import Derived.ProofKit
import Derived.OpenShut
import Derived.LaidMore
import Derived.Lay
import Derived.Carry
import Derived.SevenTiedAt
import Derived.Stop.Joined
set_option linter.unusedSimpArgs false
set_option linter.unusedVariables false
namespace Go.Proofs.YtpajcfkldnbpfaaGreatDoor
open Go.ChangeShapes Go.WideShapes Go.ChangeAt Go.RowKit
theorem ownT : ownKnob Tryz.prog.godebug = none := by kernel_rfl
theorem laidOutT : laidOutB Tryz.prog = true := by kernel_rfl
theorem rec24 : Tryz.prog.readableRec 24 = true := by kernel_rfl
theorem rows24 : 24 < Tryz.prog.types.size := of_decide_eq_true (by kernel_rfl)
theorem Tabs.of_laid {W : World} (h : laidMetH Tryz.prog Rows.fnVisitsTreeRow.laid W) : Tabs W := ⟨W, h, Below.refl _ _⟩
def Con3 : Prop := ∀ (h : TH) (k : F TH) (p : Option Addr) (c : Nat) (w0 : World), TIn h → FIn k → k.len ≤ c → Sl TS (fun b _ => b < w0.heap.size) w0 p k → Tabs w0 → Calls Tryz.prog 3 #[tval h (.slice p k.len c)] w0 (TrueR w0)
def zeroTree : Value := .agg #[.int .i64 0, .string ByteArray.empty, .string ByteArray.empty, .string ByteArray.empty, .int .i64 0, .slice none 0 0]
set_option maxRecDepth 100000 in
theorem visits_lifted (hC : Con3) (os : Os) (started : os.Started) (H : Type) (enc : TypeId × Value → H) :
    ReturnsInHanded {} Tryz.checked os 3 .any (fun w args => (Rows.fnVisitsTreeSpec.pre enc Tryz.prog Tryz.f3 [] false w args ∧ laidMetH Tryz.prog Rows.fnVisitsTreeRow.laid w) ∧ sizedMet enc Tryz.prog Tryz.f3 (OpenSpec.ofChange Rows.fnVisitsTreeSpec) false w args)
      (Rows.fnVisitsTreeSpec.post enc Tryz.prog Tryz.f3 false true false false) := by
  refine returnsInHanded_of_change_and (C := Tryz.checked) (X := fun w _ => laidMetH Tryz.prog Rows.fnVisitsTreeRow.laid w) (fun _ _ _ hh h => h.of_heap hh) ownT started (by kernel_rfl) Tryz.func3
    (ChangeSpec.witness_shaped (enc := enc) (C := Tryz.checked) (os := os) (X := fun w _ => laidMetH Tryz.prog Rows.fnVisitsTreeRow.laid w) false (World.laidAll Tryz.prog os Rows.fnVisitsTreeRow.laid) #[zeroTree] 8 (World.laidAll_os _ _ _)
      (World.shaped_of_ZipB (by kernel_rfl) (by kernel_rfl)) (by kernel_rfl) (by kernel_rfl) (by kernel_rfl)
      (by rw [MakeChecks.laidMetH_plain _ _ _ (by kernel_rfl)]; exact laidMet_laidAll _ (by kernel_rfl) (by kernel_rfl))) ?_
  intro W base args ds gs before hval0 hW _ hsz0 hL _
  have hsz : (DataW.weightsEach Tryz.prog (Tryz.f3.params.toList ++ []) (ds ++ gs)).all (· ≤ reachBytes) = true := hsz0
  have hval : ∀ (j : Nat) t v, Tryz.f3.params[j]? = some t → args[j]? = some v → Value.okWide Tryz.prog W .any base t v := hval0
  have hW' := hW
  obtain ⟨p, q, hA0, hV, rfl, _, _⟩ := hW
  have hA : DataW.TrodAll enc Tryz.prog W 0 (fun _ => true) true Tryz.f3.params.toList args.toList ds p := hA0
  rw [Tryz.params3] at hA hval hsz
  obtain ⟨v0, d0, rfl, rfl, h0⟩ := trodAll_one hA
  obtain ⟨rfl, rfl⟩ := trodVars_none hV
  have h0k := h0
  obtain ⟨cs, rfl, hcs⟩ := okWide_struct Tryz.underlying24 (hval 0 24 v0 rfl rfl)
  obtain ⟨fuel, hf⟩ := h0
  clear hA0 hval0
  simp only [List.append_nil] at hW' hsz
  have hlt : ∀ x ∈ p, x.block < W.heap.size := fun x hx => by simpa using hW'.lt x hx
  obtain ⟨h, k, pk, c, e, hkc, hsl, hti, hfi⟩ := open_tree fuel _ _ hf fun m hm => by
    have := List.all_eq_true.1 hsz m (by simpa [DataW.weightsEach] using hm)
    simpa using this
  have ev : Value.agg cs = tval h (.slice pk k.len c) := by
    have e2 : cs.toList = TS.C h (.slice pk k.len c) := e
    have : cs = (TS.C h (.slice pk k.len c)).toArray := by rw [← e2]
    rw [this]
    rfl
  refine ((ev ▸ hC h k pk c W hti hfi hkc hsl (Tabs.of_laid hL) : Calls Tryz.prog 3 #[.agg cs] W (TrueR W))).mono ?_
  rintro e W' ⟨rfl, bel⟩
  refine ⟨_, rfl, _, _, _, [], p, [], hW', ?_, ?_, ?_, bel.frame _, fun h => by cases h⟩
  · exact trodAll_mk1 (shut_bool Tryz.underlying4 _)
  · exact trodAll_mk1 (Below.trod laidOutT rec24 rows24 h0k bel hlt)
  · rfl
end Go.Proofs.YtpajcfkldnbpfaaGreatDoor
