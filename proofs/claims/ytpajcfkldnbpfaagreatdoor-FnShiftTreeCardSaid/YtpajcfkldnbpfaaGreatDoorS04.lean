/- The row and the card of FnVisitsTree, given its contract. The row and the card of FnShiftTree, given its contract. -/
import Derived.Test.YtpajcfkldnbpfaaGreatDoorS03
import Derived.Test.YtpajcfkldnbpfaaGreatDoorTie
import Derived.Test.YtpajcfkldnbpfaaGreatDoorCards
import Derived.ProofKit
import Derived.OpenShut
import Derived.LaidMore
import Derived.Lay
import Derived.Carry
import Derived.SevenTiedAt
import Derived.Stop.Joined
set_option linter.unusedSimpArgs false
set_option linter.unusedVariables false
namespace Go.Proofs.YtpajcfkldnbpfaaGreatDoor
open Go.ChangeShapes Go.WideShapes Go.ChangeAt Go.RowKit
theorem ownT : ownKnob Tryz.prog.godebug = none := by kernel_rfl
theorem laidOutT : laidOutB Tryz.prog = true := by kernel_rfl
theorem rec24 : Tryz.prog.readableRec 24 = true := by kernel_rfl
theorem rows24 : 24 < Tryz.prog.types.size := of_decide_eq_true (by kernel_rfl)
def zeroTree : Value := .agg #[.int .i64 0, .string ByteArray.empty, .string ByteArray.empty, .string ByteArray.empty, .int .i64 0, .slice none 0 0]
end Go.Proofs.YtpajcfkldnbpfaaGreatDoor
namespace Go.Proofs.YtpajcfkldnbpfaaGreatDoor
open Go.ChangeShapes Go.WideShapes Go.ChangeAt Go.RowKit
theorem rec3 : Tryz.prog.readableRec 3 = true := by kernel_rfl
theorem rows3 : 3 < Tryz.prog.types.size := of_decide_eq_true (by kernel_rfl)
theorem Tabs.of_laidS {W : World} (h : laidMetH Tryz.prog Rows.fnShiftTreeRow.laid W) : Tabs W := ⟨W, h, Below.refl _ _⟩
def Con4 : Prop := ∀ (n : Int) (h : TH) (k : F TH) (p : Option Addr) (c : Nat) (w0 : World), TIn h → FIn k → k.len ≤ c → Sl TS (fun b _ => b < w0.heap.size) w0 p k → Tabs w0 → Calls Tryz.prog 4 #[tval h (.slice p k.len c), .int .i64 n] w0 (TrueR w0)
set_option maxRecDepth 100000 in
theorem shift_lifted (hC : Con4) (os : Os) (started : os.Started) (H : Type) (enc : TypeId × Value → H) :
    ReturnsInHanded {} Tryz.checked os 4 .any (fun w args => (Rows.fnShiftTreeSpec.pre enc Tryz.prog Tryz.f4 [] false w args ∧ laidMetH Tryz.prog Rows.fnShiftTreeRow.laid w) ∧ sizedMet enc Tryz.prog Tryz.f4 (OpenSpec.ofChange Rows.fnShiftTreeSpec) false w args)
      (Rows.fnShiftTreeSpec.post enc Tryz.prog Tryz.f4 false true false false) := by
  refine returnsInHanded_of_change_and (C := Tryz.checked) (X := fun w _ => laidMetH Tryz.prog Rows.fnShiftTreeRow.laid w) (fun _ _ _ hh h => h.of_heap hh) ownT started (by kernel_rfl) Tryz.func4
    (ChangeSpec.witness_shaped (enc := enc) (C := Tryz.checked) (os := os) (X := fun w _ => laidMetH Tryz.prog Rows.fnShiftTreeRow.laid w) false (World.laidAll Tryz.prog os Rows.fnShiftTreeRow.laid) #[zeroTree, .int .i64 0] 8 (World.laidAll_os _ _ _)
      (World.shaped_of_ZipB (by kernel_rfl) (by kernel_rfl)) (by kernel_rfl) (by kernel_rfl) (by kernel_rfl)
      (by rw [MakeChecks.laidMetH_plain _ _ _ (by kernel_rfl)]; exact laidMet_laidAll _ (by kernel_rfl) (by kernel_rfl))) ?_
  intro W base args ds gs before hval0 hW _ hsz0 hL _
  have hsz : (DataW.weightsEach Tryz.prog (Tryz.f4.params.toList ++ []) (ds ++ gs)).all (· ≤ reachBytes) = true := hsz0
  have hval : ∀ (j : Nat) t v, Tryz.f4.params[j]? = some t → args[j]? = some v → Value.okWide Tryz.prog W .any base t v := hval0
  have hW' := hW
  obtain ⟨p, q, hA0, hV, rfl, _, _⟩ := hW
  have hA : DataW.TrodAll enc Tryz.prog W 0 (fun _ => true) true Tryz.f4.params.toList args.toList ds p := hA0
  rw [Tryz.params4] at hA hval hsz
  obtain ⟨v0, v1, d0, d1, p0, p1, rfl, rfl, rfl, h0, h1⟩ := trodAll_two hA
  obtain ⟨rfl, rfl⟩ := trodVars_none hV
  have h0k := h0
  obtain ⟨cs, rfl, hcs⟩ := okWide_struct Tryz.underlying24 (hval 0 24 v0 rfl rfl)
  obtain ⟨n, rfl⟩ := okWide_int Tryz.underlying3 (hval 1 3 v1 rfl rfl)
  obtain ⟨fuel, hf⟩ := h0
  clear hA0 hval0
  simp only [List.append_nil] at hW' hsz
  have hlt : ∀ x ∈ p0 ++ p1, x.block < W.heap.size := fun x hx => by simpa using hW'.lt x hx
  obtain ⟨h, k, pk, c, e, hkc, hsl, hti, hfi⟩ := open_tree fuel _ _ hf fun m hm => by
    have := List.all_eq_true.1 hsz m (by simp only [DataW.weightsEach, List.cons_append, List.nil_append, List.mem_append]; exact .inl hm)
    simpa using this
  have ev : Value.agg cs = tval h (.slice pk k.len c) := by
    have e2 : cs.toList = TS.C h (.slice pk k.len c) := e
    have : cs = (TS.C h (.slice pk k.len c)).toArray := by rw [← e2]
    rw [this]
    rfl
  refine ((ev ▸ hC n h k pk c W hti hfi hkc hsl (Tabs.of_laidS hL) : Calls Tryz.prog 4 #[.agg cs, .int .i64 n] W (TrueR W))).mono ?_
  rintro e W' ⟨rfl, bel⟩
  refine ⟨_, rfl, _, _, _, [], p0 ++ p1, [], hW', ?_, ?_, ?_, bel.frame _, fun h => by cases h⟩
  · exact trodAll_mk1 (shut_bool Tryz.underlying4 _)
  · exact trodAll_mk2 (Below.trod laidOutT rec24 rows24 h0k bel fun x hx => hlt x (List.mem_append_left _ hx)) (Below.trod laidOutT rec3 rows3 h1 bel fun x hx => hlt x (List.mem_append_right _ hx))
  · rfl
end Go.Proofs.YtpajcfkldnbpfaaGreatDoor
