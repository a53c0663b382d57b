/- alone: numbers. alone, of every node. -/
import Derived.Test.YtpajcfkldnbpfaaGreatDoorV19
import Derived.Test.YtpajcfkldnbpfaaGreatDoorV26
import Derived.Test.YtpajcfkldnbpfaaGreatDoorV20
import Derived.Test.YtpajcfkldnbpfaaGreatDoorV21
import Derived.Test.YtpajcfkldnbpfaaGreatDoorV22
import Derived.Test.YtpajcfkldnbpfaaGreatDoorV23
set_option linter.unusedSimpArgs false
set_option linter.unusedVariables false
namespace Go.Proofs.YtpajcfkldnbpfaaGreatDoor
open Go.RowKit
def FFR (Q : ByteArray → Prop) (w : World) (e : Ending) (w' : World) : Prop := ∃ s, e = .returned (.string s) ∧ Q s ∧ Below w.heap.size w w'
def FFC (f : Nat) (Q : ByteArray → Prop) : Prop := ∀ w : World, Tabs w → Calls Tryz.prog 28 #[.float .f64 f, .int .u8 103, .int .i64 (-1), .int .i64 64] w (FFR Q w)
set_option maxRecDepth 100000 in
set_option maxHeartbeats 4000000 in
theorem alone_4 (c : Int) (h : NH) (v : Value) (b ba tk pb : Nat) (w0 : World) (hk : h.kind = 4) (hblk : Blk w0 b 115 [ptr ba, ptr tk, v]) (hba : Blk w0 ba 235 [.string ByteArray.empty, .pointer none, .int .i64 0]) (ht : TokAt w0 c h tk pb) (hv : h.flow = false ∧ DigV v h.value ∧ Tabs w0) : Calls Tryz.prog 19 #[.iface 113 (ptr b)] w0 (AloneR c h .nil w0) := by
  have HB := Lib.hid (And.intro hblk (And.intro hba (And.intro ht hv)))
  clear hblk hba ht hv
  obtain ⟨kd, ty, va, te, fl, co, of⟩ := h
  simp only at hk
  subst hk
  obtain rfl : fl = false := HB.out.2.2.2.1
  ((have ta101 := fun v xT w => ta_miss (t := 113) 101 (by decide) (by decide) v xT w; have ta106 := fun v xT w => ta_miss (t := 113) 106 (by decide) (by decide) v xT w; have ta109 := fun v xT w => ta_miss (t := 113) 109 (by decide) (by decide) v xT w; have ta113 := fun v xT w => ta_hit 113 (by decide) v xT w); have hst := St.nil w0.heap.size ⟨[], []⟩ w0 (Nat.le_refl _); go_enter Tryz.func19, Tryz.ntmps19; go_wp2_with ((first | ((with_reducible refine at_load ?_); first | refine X1 hst ?_ | refine XW hst ?_) | ((with_reducible refine at_store ?_); (first | refine Y1 hst ?_ | refine YW hst ?_); clear hst; intro w hst) | ((first | ((with_reducible refine at_alloc ?_); refine ZP hst ?_) | ((with_reducible refine at_box ?_); refine ZP hst ?_) | ((with_reducible refine at_bslice ?_); refine ZS hst ?_)); clear hst; (intro b0 w hb0 hst)))); refine (type4 _ _).mono ?_; rintro e w1 ⟨rfl, rfl⟩; have hc0 := (HB.out.1.below hst.kp.below).cell (off := 0) rfl; have hp1 := prom_path (t := 113) (S := 115) (by decide) hc0; have hp2 := prom_comment (t := 113) (S := 115) (by decide) hc0; go_wp2_with ((first | ((with_reducible refine at_load ?_); first | refine X1 hst ?_ | refine XW hst ?_) | ((with_reducible refine at_store ?_); (first | refine Y1 hst ?_ | refine YW hst ?_); clear hst; intro w hst) | ((first | ((with_reducible refine at_alloc ?_); refine ZP hst ?_) | ((with_reducible refine at_box ?_); refine ZP hst ?_) | ((with_reducible refine at_bslice ?_); refine ZS hst ?_)); clear hst; (intro b0 w hb0 hst)))); (refine (getPath_any ba _ (HB.out.2.1.below hst.kp.below)).mono ?_; rintro e w1 ⟨rfl, rfl⟩); go_wp2_with ((first | ((with_reducible refine at_load ?_); first | refine X1 hst ?_ | refine XW hst ?_) | ((with_reducible refine at_store ?_); (first | refine Y1 hst ?_ | refine YW hst ?_); clear hst; intro w hst) | ((first | ((with_reducible refine at_alloc ?_); refine ZP hst ?_) | ((with_reducible refine at_box ?_); refine ZP hst ?_) | ((with_reducible refine at_bslice ?_); refine ZS hst ?_)); clear hst; (intro b0 w hb0 hst)))); (refine (getComment_any ba _ (HB.out.2.1.below hst.kp.below)).mono ?_; rintro e w1 ⟨rfl, rfl⟩); go_wp2_with ((first | ((with_reducible refine at_load ?_); first | refine X1 hst ?_ | refine XW hst ?_) | ((with_reducible refine at_store ?_); (first | refine Y1 hst ?_ | refine YW hst ?_); clear hst; intro w hst) | ((first | ((with_reducible refine at_alloc ?_); refine ZP hst ?_) | ((with_reducible refine at_box ?_); refine ZP hst ?_) | ((with_reducible refine at_bslice ?_); refine ZS hst ?_)); clear hst; (intro b0 w hb0 hst)))); (refine (told_nil _).mono ?_; rintro e w1 ⟨rfl, rfl⟩); clear hc0 hp1 hp2)
  go_upto_region 17 with ((first | ((with_reducible refine at_load ?_); first | refine X1 hst ?_ | refine XW hst ?_) | ((with_reducible refine at_store ?_); (first | refine Y1 hst ?_ | refine YW hst ?_); clear hst; intro w hst) | ((first | ((with_reducible refine at_alloc ?_); refine ZP hst ?_) | ((with_reducible refine at_box ?_); refine ZP hst ?_) | ((with_reducible refine at_bslice ?_); refine ZS hst ?_)); clear hst; (intro b0 w hb0 hst))))
  refine wp_plan (fun w => St w0.heap.size ⟨[], []⟩ w0 w []) [0, 1, 2, 3, 4, 5, 6, 7, 9, 10] (.q 0 (.q 1 (.q 2 (.q 3 (.q 4 (.q 5 (.q 6 (.q 7 (.e 8 true (.q 9 (.q 10 (.e 11 false (.fin))))))))))))) mixed (by kernel_rfl) (by kernel_rfl) (by kernel_rfl) (fun d v c a w h => by cases d <;> exact h) (hst.drew.sub (List.nil_sublist _)) ?_
  replace hst := hst.drew
  repeat ((refine AQ ?_); first | (refine p_ldc1 (q := ⟨b, 1, none⟩) (fun w hS => (HB.out.1.below hS.kp.below).cell (off := 1) rfl) rfl rfl rfl (one_of (by decide +kernel)) ?_; go_frame) | (refine p_ldc1 (q := ⟨b, 2, none⟩) (fun w hS => (HB.out.1.below hS.kp.below).cell (off := 2) rfl) rfl rfl rfl (one_of (by decide +kernel)) ?_; go_frame) | (refine p_ldc1 (q := ⟨b, 3, none⟩) (fun w hS => (HB.out.1.below hS.kp.below).cell (off := 3) rfl) rfl rfl rfl (one_of (by decide +kernel)) ?_; go_frame) | (refine QV ?_; go_frame))
  refine at_e (by simp only [List.getElem?_toArray, List.getElem?_cons_succ, List.getElem?_cons_zero]; rfl) rfl ?_
  refine e_call (by go_simp <;> first | rfl | exact ⟨rfl, rfl⟩) (digits_any v va HB.out.2.2.2.2.1 _ (HB.out.2.2.2.2.2.below hst.kp.below)) ?_
  rintro e w4 ⟨rfl, hb⟩
  replace hst := hst.below hb
  refine ⟨_, rfl, fun _ => hst.sub (List.nil_sublist _), ?_⟩
  go_frame
  repeat ((refine AQ ?_); (refine QV ?_; go_frame))
  (refine at_e (by simp only [List.getElem?_toArray, List.getElem?_cons_succ, List.getElem?_cons_zero]; rfl) rfl ?_; refine E1 hst ?_; clear hst; intro w hst; refine ⟨fun _ => hst.sub (List.nil_sublist _), ?_⟩; go_frame)
  unfold wpP
  go_upto_region 77 with ((first | ((with_reducible refine at_load ?_); first | refine X1 hst ?_ | refine XW hst ?_) | ((with_reducible refine at_store ?_); (first | refine Y1 hst ?_ | refine YW hst ?_); clear hst; intro w hst)))
  refine wp_plan (fun w => St w0.heap.size ⟨[], []⟩ w0 w []) [0, 1, 2, 3, 4, 5, 6, 7, 8, 9, 10, 11, 12, 14, 16, 18, 20] (.q 0 (.q 1 (.q 2 (.q 3 (.q 4 (.q 5 (.q 6 (.q 7 (.q 8 (.q 9 (.q 10 (.q 11 (.q 12 (.q 14 (.e 13 true (.e 15 true (.q 16 (.e 17 true (.q 18 (.e 19 true (.q 20 (.e 21 false (.fin))))))))))))))))))))))) mixed (by kernel_rfl) (by kernel_rfl) (by kernel_rfl) (fun d v c a w h => by cases d <;> exact h) (hst.drew.sub (List.nil_sublist _)) ?_
  replace hst := hst.drew
  repeat ((refine AQ ?_); first | (first | (refine p_ldc1 (q := ⟨tk, 0, none⟩) (fun w hS => (HB.out.2.2.1.1.below hS.kp.below).cell (off := 0) rfl) rfl rfl rfl (one_of (by decide +kernel)) ?_; go_frame) | (refine p_ldc1 (q := ⟨tk, 3, none⟩) (fun w hS => (HB.out.2.2.1.1.below hS.kp.below).cell (off := 3) rfl) rfl rfl rfl (one_of (by decide +kernel)) ?_; go_frame) | (refine p_ldc1 (q := ⟨tk, 4, none⟩) (fun w hS => (HB.out.2.2.1.1.below hS.kp.below).cell (off := 4) rfl) rfl rfl rfl (one_of (by decide +kernel)) ?_; go_frame)) | (refine QV ?_; go_frame))
  refine at_e (by simp only [List.getElem?_toArray, List.getElem?_cons_succ, List.getElem?_cons_zero]; rfl) rfl ?_
  refine e_call (by go_simp <;> first | rfl | exact ⟨rfl, rfl⟩) (placeA_any c tk pb _ _ (HB.out.2.2.1.below hst.kp.below)) ?_
  rintro e w4 ⟨rfl, hb⟩
  replace hst := hst.below hb
  refine ⟨_, rfl, fun _ => hst.sub (List.nil_sublist _), ?_⟩
  go_frame
  (refine at_e (by simp only [List.getElem?_toArray, List.getElem?_cons_succ, List.getElem?_cons_zero]; rfl) rfl ?_; refine E1 hst ?_; clear hst; intro w hst; refine ⟨fun _ => hst.sub (List.nil_sublist _), ?_⟩; go_frame)
  repeat ((refine AQ ?_); (refine QV ?_; go_frame))
  (refine at_e (by simp only [List.getElem?_toArray, List.getElem?_cons_succ, List.getElem?_cons_zero]; rfl) rfl ?_; refine E1 hst ?_; clear hst; intro w hst; refine ⟨fun _ => hst.sub (List.nil_sublist _), ?_⟩; go_frame)
  repeat ((refine AQ ?_); (refine QV ?_; go_frame))
  (refine at_e (by simp only [List.getElem?_toArray, List.getElem?_cons_succ, List.getElem?_cons_zero]; rfl) rfl ?_; refine E1 hst ?_; clear hst; intro w hst; refine ⟨fun _ => hst.sub (List.nil_sublist _), ?_⟩; go_frame)
  repeat ((refine AQ ?_); (refine QV ?_; go_frame))
  refine at_e (by simp only [List.getElem?_toArray, List.getElem?_cons_succ, List.getElem?_cons_zero]; rfl) rfl ?_
  refine p_part hst (off := 9) (vs := [.int .i64 1, .int .i64 (co + c), .int .i64 of, .int .i64 0, .int .i64 0]) (by exact rfl) (by exact rfl) (by exact rfl) (.head (l' := [.int .i64 4, .int .i64 ty, .string va, .string te, .string te, .string ByteArray.empty, .bool false, .bool false, .bool false, .int .i64 1, .int .i64 (co + c), .int .i64 of, .int .i64 0, .int .i64 0, .slice none 0 0, .slice none 0 0, .slice none 0 0, .slice none 0 0, .slice none 0 0])) rfl (by exact szn_of rfl rfl) (Nat.le_of_ble_eq_true rfl) rfl ?_
  clear hst
  intro w hst
  refine ⟨fun h => by first | exact absurd h (by decide) | exact hst.sub (List.nil_sublist _), ?_⟩
  go_frame
  unfold wpP
  go_wp2_with ((first | ((with_reducible refine at_load ?_); first | refine X1 hst ?_ | refine XW hst ?_) | ((with_reducible refine at_store ?_); (first | refine Y1 hst ?_ | refine YW hst ?_); clear hst; intro w hst)))
  refine ret_ct hst rfl rfl (by (repeat' (first | exact List.Mem.head _ | apply List.Mem.tail)); done) (by exact agg_of rfl rfl) rfl rfl ?_
  exact ⟨va, none, 0, 0, 0, [], rfl, fun _ => rfl, Nat.le_refl _, .inl rfl, ⟨rfl, Nat.le_refl _⟩, hst.kp.below⟩
set_option maxRecDepth 100000 in
set_option maxHeartbeats 4000000 in
theorem alone_5 (c : Int) (h : NH) (f : Nat) (b ba tk pb : Nat) (w0 : World) (hk : h.kind = 5) (hblk : Blk w0 b 119 [ptr ba, ptr tk, .int .i64 0, .float .f64 f]) (hba : Blk w0 ba 235 [.string ByteArray.empty, .pointer none, .int .i64 0]) (ht : TokAt w0 c h tk pb) (hv : h.flow = false ∧ Tabs w0 ∧ FFC f (fun _ => True)) : Calls Tryz.prog 19 #[.iface 117 (ptr b)] w0 (AloneR c h .nil w0) := by
  have HB := Lib.hid (And.intro hblk (And.intro hba (And.intro ht hv)))
  clear hblk hba ht hv
  obtain ⟨kd, ty, va, te, fl, co, of⟩ := h
  simp only at hk
  subst hk
  obtain rfl : fl = false := HB.out.2.2.2.1
  ((have ta101 := fun v xT w => ta_miss (t := 117) 101 (by decide) (by decide) v xT w; have ta106 := fun v xT w => ta_miss (t := 117) 106 (by decide) (by decide) v xT w; have ta109 := fun v xT w => ta_miss (t := 117) 109 (by decide) (by decide) v xT w; have ta113 := fun v xT w => ta_miss (t := 117) 113 (by decide) (by decide) v xT w; have ta117 := fun v xT w => ta_hit 117 (by decide) v xT w); have hst := St.nil w0.heap.size ⟨[], []⟩ w0 (Nat.le_refl _); go_enter Tryz.func19, Tryz.ntmps19; go_wp2_with ((first | ((with_reducible refine at_load ?_); first | refine X1 hst ?_ | refine XW hst ?_) | ((with_reducible refine at_store ?_); (first | refine Y1 hst ?_ | refine YW hst ?_); clear hst; intro w hst) | ((first | ((with_reducible refine at_alloc ?_); refine ZP hst ?_) | ((with_reducible refine at_box ?_); refine ZP hst ?_) | ((with_reducible refine at_bslice ?_); refine ZS hst ?_)); clear hst; (intro b0 w hb0 hst)))); refine (type5 _ _).mono ?_; rintro e w1 ⟨rfl, rfl⟩; have hc0 := (HB.out.1.below hst.kp.below).cell (off := 0) rfl; have hp1 := prom_path (t := 117) (S := 119) (by decide) hc0; have hp2 := prom_comment (t := 117) (S := 119) (by decide) hc0; go_wp2_with ((first | ((with_reducible refine at_load ?_); first | refine X1 hst ?_ | refine XW hst ?_) | ((with_reducible refine at_store ?_); (first | refine Y1 hst ?_ | refine YW hst ?_); clear hst; intro w hst) | ((first | ((with_reducible refine at_alloc ?_); refine ZP hst ?_) | ((with_reducible refine at_box ?_); refine ZP hst ?_) | ((with_reducible refine at_bslice ?_); refine ZS hst ?_)); clear hst; (intro b0 w hb0 hst)))); (refine (getPath_any ba _ (HB.out.2.1.below hst.kp.below)).mono ?_; rintro e w1 ⟨rfl, rfl⟩); go_wp2_with ((first | ((with_reducible refine at_load ?_); first | refine X1 hst ?_ | refine XW hst ?_) | ((with_reducible refine at_store ?_); (first | refine Y1 hst ?_ | refine YW hst ?_); clear hst; intro w hst) | ((first | ((with_reducible refine at_alloc ?_); refine ZP hst ?_) | ((with_reducible refine at_box ?_); refine ZP hst ?_) | ((with_reducible refine at_bslice ?_); refine ZS hst ?_)); clear hst; (intro b0 w hb0 hst)))); (refine (getComment_any ba _ (HB.out.2.1.below hst.kp.below)).mono ?_; rintro e w1 ⟨rfl, rfl⟩); go_wp2_with ((first | ((with_reducible refine at_load ?_); first | refine X1 hst ?_ | refine XW hst ?_) | ((with_reducible refine at_store ?_); (first | refine Y1 hst ?_ | refine YW hst ?_); clear hst; intro w hst) | ((first | ((with_reducible refine at_alloc ?_); refine ZP hst ?_) | ((with_reducible refine at_box ?_); refine ZP hst ?_) | ((with_reducible refine at_bslice ?_); refine ZS hst ?_)); clear hst; (intro b0 w hb0 hst)))); (refine (told_nil _).mono ?_; rintro e w1 ⟨rfl, rfl⟩); clear hc0 hp1 hp2)
  go_upto_region 20 with ((first | ((with_reducible refine at_load ?_); first | refine X1 hst ?_ | refine XW hst ?_) | ((with_reducible refine at_store ?_); (first | refine Y1 hst ?_ | refine YW hst ?_); clear hst; intro w hst) | ((first | ((with_reducible refine at_alloc ?_); refine ZP hst ?_) | ((with_reducible refine at_box ?_); refine ZP hst ?_) | ((with_reducible refine at_bslice ?_); refine ZS hst ?_)); clear hst; (intro b0 w hb0 hst))))
  refine wp_plan (fun w => St w0.heap.size ⟨[], []⟩ w0 w []) [0, 1, 2, 3, 4, 5, 6, 7, 9, 10] (.q 0 (.q 1 (.q 2 (.q 3 (.q 4 (.q 5 (.q 6 (.q 7 (.e 8 true (.q 9 (.q 10 (.e 11 false (.fin))))))))))))) mixed (by kernel_rfl) (by kernel_rfl) (by kernel_rfl) (fun d v c a w h => by cases d <;> exact h) (hst.drew.sub (List.nil_sublist _)) ?_
  replace hst := hst.drew
  repeat ((refine AQ ?_); first | (refine p_ldc1 (q := ⟨b, 1, none⟩) (fun w hS => (HB.out.1.below hS.kp.below).cell (off := 1) rfl) rfl rfl rfl (one_of (by decide +kernel)) ?_; go_frame) | (refine p_ldc1 (q := ⟨b, 2, none⟩) (fun w hS => (HB.out.1.below hS.kp.below).cell (off := 2) rfl) rfl rfl rfl (one_of (by decide +kernel)) ?_; go_frame) | (refine p_ldc1 (q := ⟨b, 3, none⟩) (fun w hS => (HB.out.1.below hS.kp.below).cell (off := 3) rfl) rfl rfl rfl (one_of (by decide +kernel)) ?_; go_frame) | (refine QV ?_; go_frame))
  refine at_e (by simp only [List.getElem?_toArray, List.getElem?_cons_succ, List.getElem?_cons_zero]; rfl) rfl ?_
  refine e_call (by go_simp <;> first | rfl | exact ⟨rfl, rfl⟩) (HB.out.2.2.2.2.2 _ (HB.out.2.2.2.2.1.below hst.kp.below)) ?_
  rintro e w4 ⟨sv, rfl, -, hb⟩
  replace hst := hst.below hb
  refine ⟨_, rfl, fun _ => hst.sub (List.nil_sublist _), ?_⟩
  go_frame
  repeat ((refine AQ ?_); (refine QV ?_; go_frame))
  (refine at_e (by simp only [List.getElem?_toArray, List.getElem?_cons_succ, List.getElem?_cons_zero]; rfl) rfl ?_; refine E1 hst ?_; clear hst; intro w hst; refine ⟨fun _ => hst.sub (List.nil_sublist _), ?_⟩; go_frame)
  unfold wpP
  go_upto_region 77 with ((first | ((with_reducible refine at_load ?_); first | refine X1 hst ?_ | refine XW hst ?_) | ((with_reducible refine at_store ?_); (first | refine Y1 hst ?_ | refine YW hst ?_); clear hst; intro w hst)))
  refine wp_plan (fun w => St w0.heap.size ⟨[], []⟩ w0 w []) [0, 1, 2, 3, 4, 5, 6, 7, 8, 9, 10, 11, 12, 14, 16, 18, 20] (.q 0 (.q 1 (.q 2 (.q 3 (.q 4 (.q 5 (.q 6 (.q 7 (.q 8 (.q 9 (.q 10 (.q 11 (.q 12 (.q 14 (.e 13 true (.e 15 true (.q 16 (.e 17 true (.q 18 (.e 19 true (.q 20 (.e 21 false (.fin))))))))))))))))))))))) mixed (by kernel_rfl) (by kernel_rfl) (by kernel_rfl) (fun d v c a w h => by cases d <;> exact h) (hst.drew.sub (List.nil_sublist _)) ?_
  replace hst := hst.drew
  repeat ((refine AQ ?_); first | (first | (refine p_ldc1 (q := ⟨tk, 0, none⟩) (fun w hS => (HB.out.2.2.1.1.below hS.kp.below).cell (off := 0) rfl) rfl rfl rfl (one_of (by decide +kernel)) ?_; go_frame) | (refine p_ldc1 (q := ⟨tk, 3, none⟩) (fun w hS => (HB.out.2.2.1.1.below hS.kp.below).cell (off := 3) rfl) rfl rfl rfl (one_of (by decide +kernel)) ?_; go_frame) | (refine p_ldc1 (q := ⟨tk, 4, none⟩) (fun w hS => (HB.out.2.2.1.1.below hS.kp.below).cell (off := 4) rfl) rfl rfl rfl (one_of (by decide +kernel)) ?_; go_frame)) | (refine QV ?_; go_frame))
  refine at_e (by simp only [List.getElem?_toArray, List.getElem?_cons_succ, List.getElem?_cons_zero]; rfl) rfl ?_
  refine e_call (by go_simp <;> first | rfl | exact ⟨rfl, rfl⟩) (placeA_any c tk pb _ _ (HB.out.2.2.1.below hst.kp.below)) ?_
  rintro e w4 ⟨rfl, hb⟩
  replace hst := hst.below hb
  refine ⟨_, rfl, fun _ => hst.sub (List.nil_sublist _), ?_⟩
  go_frame
  (refine at_e (by simp only [List.getElem?_toArray, List.getElem?_cons_succ, List.getElem?_cons_zero]; rfl) rfl ?_; refine E1 hst ?_; clear hst; intro w hst; refine ⟨fun _ => hst.sub (List.nil_sublist _), ?_⟩; go_frame)
  repeat ((refine AQ ?_); (refine QV ?_; go_frame))
  (refine at_e (by simp only [List.getElem?_toArray, List.getElem?_cons_succ, List.getElem?_cons_zero]; rfl) rfl ?_; refine E1 hst ?_; clear hst; intro w hst; refine ⟨fun _ => hst.sub (List.nil_sublist _), ?_⟩; go_frame)
  repeat ((refine AQ ?_); (refine QV ?_; go_frame))
  (refine at_e (by simp only [List.getElem?_toArray, List.getElem?_cons_succ, List.getElem?_cons_zero]; rfl) rfl ?_; refine E1 hst ?_; clear hst; intro w hst; refine ⟨fun _ => hst.sub (List.nil_sublist _), ?_⟩; go_frame)
  repeat ((refine AQ ?_); (refine QV ?_; go_frame))
  refine at_e (by simp only [List.getElem?_toArray, List.getElem?_cons_succ, List.getElem?_cons_zero]; rfl) rfl ?_
  refine p_part hst (off := 9) (vs := [.int .i64 1, .int .i64 (co + c), .int .i64 of, .int .i64 0, .int .i64 0]) (by exact rfl) (by exact rfl) (by exact rfl) (.head (l' := [.int .i64 5, .int .i64 ty, .string sv, .string te, .string te, .string ByteArray.empty, .bool false, .bool false, .bool false, .int .i64 1, .int .i64 (co + c), .int .i64 of, .int .i64 0, .int .i64 0, .slice none 0 0, .slice none 0 0, .slice none 0 0, .slice none 0 0, .slice none 0 0])) rfl (by exact szn_of rfl rfl) (Nat.le_of_ble_eq_true rfl) rfl ?_
  clear hst
  intro w hst
  refine ⟨fun h => by first | exact absurd h (by decide) | exact hst.sub (List.nil_sublist _), ?_⟩
  go_frame
  unfold wpP
  go_wp2_with ((first | ((with_reducible refine at_load ?_); first | refine X1 hst ?_ | refine XW hst ?_) | ((with_reducible refine at_store ?_); (first | refine Y1 hst ?_ | refine YW hst ?_); clear hst; intro w hst)))
  refine ret_ct hst rfl rfl (by (repeat' (first | exact List.Mem.head _ | apply List.Mem.tail)); done) (by exact agg_of rfl rfl) rfl rfl ?_
  exact ⟨sv, none, 0, 0, 0, [], rfl, fun h => absurd rfl h, Nat.le_refl _, .inl rfl, ⟨rfl, Nat.le_refl _⟩, hst.kp.below⟩
set_option maxRecDepth 100000 in
set_option maxHeartbeats 4000000 in
theorem alone_6 (c : Int) (h : NH) (f : Nat) (b ba tk pb : Nat) (w0 : World) (hk : h.kind = 6) (hblk : Blk w0 b 122 [ptr ba, ptr tk, .float .f64 f]) (hba : Blk w0 ba 235 [.string ByteArray.empty, .pointer none, .int .i64 0]) (ht : TokAt w0 c h tk pb) (hv : h.flow = false ∧ Tabs w0 ∧ FFC f (fun s => s = h.value)) : Calls Tryz.prog 19 #[.iface 120 (ptr b)] w0 (AloneR c h .nil w0) := by
  have HB := Lib.hid (And.intro hblk (And.intro hba (And.intro ht hv)))
  clear hblk hba ht hv
  obtain ⟨kd, ty, va, te, fl, co, of⟩ := h
  simp only at hk
  subst hk
  obtain rfl : fl = false := HB.out.2.2.2.1
  ((have ta101 := fun v xT w => ta_miss (t := 120) 101 (by decide) (by decide) v xT w; have ta106 := fun v xT w => ta_miss (t := 120) 106 (by decide) (by decide) v xT w; have ta109 := fun v xT w => ta_miss (t := 120) 109 (by decide) (by decide) v xT w; have ta113 := fun v xT w => ta_miss (t := 120) 113 (by decide) (by decide) v xT w; have ta117 := fun v xT w => ta_miss (t := 120) 117 (by decide) (by decide) v xT w; have ta120 := fun v xT w => ta_hit 120 (by decide) v xT w); have hst := St.nil w0.heap.size ⟨[], []⟩ w0 (Nat.le_refl _); go_enter Tryz.func19, Tryz.ntmps19; go_wp2_with ((first | ((with_reducible refine at_load ?_); first | refine X1 hst ?_ | refine XW hst ?_) | ((with_reducible refine at_store ?_); (first | refine Y1 hst ?_ | refine YW hst ?_); clear hst; intro w hst) | ((first | ((with_reducible refine at_alloc ?_); refine ZP hst ?_) | ((with_reducible refine at_box ?_); refine ZP hst ?_) | ((with_reducible refine at_bslice ?_); refine ZS hst ?_)); clear hst; (intro b0 w hb0 hst)))); refine (type6 _ _).mono ?_; rintro e w1 ⟨rfl, rfl⟩; have hc0 := (HB.out.1.below hst.kp.below).cell (off := 0) rfl; have hp1 := prom_path (t := 120) (S := 122) (by decide) hc0; have hp2 := prom_comment (t := 120) (S := 122) (by decide) hc0; go_wp2_with ((first | ((with_reducible refine at_load ?_); first | refine X1 hst ?_ | refine XW hst ?_) | ((with_reducible refine at_store ?_); (first | refine Y1 hst ?_ | refine YW hst ?_); clear hst; intro w hst) | ((first | ((with_reducible refine at_alloc ?_); refine ZP hst ?_) | ((with_reducible refine at_box ?_); refine ZP hst ?_) | ((with_reducible refine at_bslice ?_); refine ZS hst ?_)); clear hst; (intro b0 w hb0 hst)))); (refine (getPath_any ba _ (HB.out.2.1.below hst.kp.below)).mono ?_; rintro e w1 ⟨rfl, rfl⟩); go_wp2_with ((first | ((with_reducible refine at_load ?_); first | refine X1 hst ?_ | refine XW hst ?_) | ((with_reducible refine at_store ?_); (first | refine Y1 hst ?_ | refine YW hst ?_); clear hst; intro w hst) | ((first | ((with_reducible refine at_alloc ?_); refine ZP hst ?_) | ((with_reducible refine at_box ?_); refine ZP hst ?_) | ((with_reducible refine at_bslice ?_); refine ZS hst ?_)); clear hst; (intro b0 w hb0 hst)))); (refine (getComment_any ba _ (HB.out.2.1.below hst.kp.below)).mono ?_; rintro e w1 ⟨rfl, rfl⟩); go_wp2_with ((first | ((with_reducible refine at_load ?_); first | refine X1 hst ?_ | refine XW hst ?_) | ((with_reducible refine at_store ?_); (first | refine Y1 hst ?_ | refine YW hst ?_); clear hst; intro w hst) | ((first | ((with_reducible refine at_alloc ?_); refine ZP hst ?_) | ((with_reducible refine at_box ?_); refine ZP hst ?_) | ((with_reducible refine at_bslice ?_); refine ZS hst ?_)); clear hst; (intro b0 w hb0 hst)))); (refine (told_nil _).mono ?_; rintro e w1 ⟨rfl, rfl⟩); clear hc0 hp1 hp2)
  go_upto_region 23 with ((first | ((with_reducible refine at_load ?_); first | refine X1 hst ?_ | refine XW hst ?_) | ((with_reducible refine at_store ?_); (first | refine Y1 hst ?_ | refine YW hst ?_); clear hst; intro w hst) | ((first | ((with_reducible refine at_alloc ?_); refine ZP hst ?_) | ((with_reducible refine at_box ?_); refine ZP hst ?_) | ((with_reducible refine at_bslice ?_); refine ZS hst ?_)); clear hst; (intro b0 w hb0 hst))))
  refine wp_plan (fun w => St w0.heap.size ⟨[], []⟩ w0 w []) [0, 1, 2, 3, 4, 5, 6, 7, 9, 10] (.q 0 (.q 1 (.q 2 (.q 3 (.q 4 (.q 5 (.q 6 (.q 7 (.e 8 true (.q 9 (.q 10 (.e 11 false (.fin))))))))))))) mixed (by kernel_rfl) (by kernel_rfl) (by kernel_rfl) (fun d v c a w h => by cases d <;> exact h) (hst.drew.sub (List.nil_sublist _)) ?_
  replace hst := hst.drew
  repeat ((refine AQ ?_); first | (refine p_ldc1 (q := ⟨b, 1, none⟩) (fun w hS => (HB.out.1.below hS.kp.below).cell (off := 1) rfl) rfl rfl rfl (one_of (by decide +kernel)) ?_; go_frame) | (refine p_ldc1 (q := ⟨b, 2, none⟩) (fun w hS => (HB.out.1.below hS.kp.below).cell (off := 2) rfl) rfl rfl rfl (one_of (by decide +kernel)) ?_; go_frame) | (refine p_ldc1 (q := ⟨b, 3, none⟩) (fun w hS => (HB.out.1.below hS.kp.below).cell (off := 3) rfl) rfl rfl rfl (one_of (by decide +kernel)) ?_; go_frame) | (refine QV ?_; go_frame))
  refine at_e (by simp only [List.getElem?_toArray, List.getElem?_cons_succ, List.getElem?_cons_zero]; rfl) rfl ?_
  refine e_call (by go_simp <;> first | rfl | exact ⟨rfl, rfl⟩) (HB.out.2.2.2.2.2 _ (HB.out.2.2.2.2.1.below hst.kp.below)) ?_
  rintro e w4 ⟨sv, rfl, hsv, hb⟩
  have HSV := Lib.hid hsv
  clear hsv
  replace hst := hst.below hb
  refine ⟨_, rfl, fun _ => hst.sub (List.nil_sublist _), ?_⟩
  go_frame
  repeat ((refine AQ ?_); (refine QV ?_; go_frame))
  (refine at_e (by simp only [List.getElem?_toArray, List.getElem?_cons_succ, List.getElem?_cons_zero]; rfl) rfl ?_; refine E1 hst ?_; clear hst; intro w hst; refine ⟨fun _ => hst.sub (List.nil_sublist _), ?_⟩; go_frame)
  unfold wpP
  go_upto_region 77 with ((first | ((with_reducible refine at_load ?_); first | refine X1 hst ?_ | refine XW hst ?_) | ((with_reducible refine at_store ?_); (first | refine Y1 hst ?_ | refine YW hst ?_); clear hst; intro w hst)))
  refine wp_plan (fun w => St w0.heap.size ⟨[], []⟩ w0 w []) [0, 1, 2, 3, 4, 5, 6, 7, 8, 9, 10, 11, 12, 14, 16, 18, 20] (.q 0 (.q 1 (.q 2 (.q 3 (.q 4 (.q 5 (.q 6 (.q 7 (.q 8 (.q 9 (.q 10 (.q 11 (.q 12 (.q 14 (.e 13 true (.e 15 true (.q 16 (.e 17 true (.q 18 (.e 19 true (.q 20 (.e 21 false (.fin))))))))))))))))))))))) mixed (by kernel_rfl) (by kernel_rfl) (by kernel_rfl) (fun d v c a w h => by cases d <;> exact h) (hst.drew.sub (List.nil_sublist _)) ?_
  replace hst := hst.drew
  repeat ((refine AQ ?_); first | (first | (refine p_ldc1 (q := ⟨tk, 0, none⟩) (fun w hS => (HB.out.2.2.1.1.below hS.kp.below).cell (off := 0) rfl) rfl rfl rfl (one_of (by decide +kernel)) ?_; go_frame) | (refine p_ldc1 (q := ⟨tk, 3, none⟩) (fun w hS => (HB.out.2.2.1.1.below hS.kp.below).cell (off := 3) rfl) rfl rfl rfl (one_of (by decide +kernel)) ?_; go_frame) | (refine p_ldc1 (q := ⟨tk, 4, none⟩) (fun w hS => (HB.out.2.2.1.1.below hS.kp.below).cell (off := 4) rfl) rfl rfl rfl (one_of (by decide +kernel)) ?_; go_frame)) | (refine QV ?_; go_frame))
  refine at_e (by simp only [List.getElem?_toArray, List.getElem?_cons_succ, List.getElem?_cons_zero]; rfl) rfl ?_
  refine e_call (by go_simp <;> first | rfl | exact ⟨rfl, rfl⟩) (placeA_any c tk pb _ _ (HB.out.2.2.1.below hst.kp.below)) ?_
  rintro e w4 ⟨rfl, hb⟩
  replace hst := hst.below hb
  refine ⟨_, rfl, fun _ => hst.sub (List.nil_sublist _), ?_⟩
  go_frame
  (refine at_e (by simp only [List.getElem?_toArray, List.getElem?_cons_succ, List.getElem?_cons_zero]; rfl) rfl ?_; refine E1 hst ?_; clear hst; intro w hst; refine ⟨fun _ => hst.sub (List.nil_sublist _), ?_⟩; go_frame)
  repeat ((refine AQ ?_); (refine QV ?_; go_frame))
  (refine at_e (by simp only [List.getElem?_toArray, List.getElem?_cons_succ, List.getElem?_cons_zero]; rfl) rfl ?_; refine E1 hst ?_; clear hst; intro w hst; refine ⟨fun _ => hst.sub (List.nil_sublist _), ?_⟩; go_frame)
  repeat ((refine AQ ?_); (refine QV ?_; go_frame))
  (refine at_e (by simp only [List.getElem?_toArray, List.getElem?_cons_succ, List.getElem?_cons_zero]; rfl) rfl ?_; refine E1 hst ?_; clear hst; intro w hst; refine ⟨fun _ => hst.sub (List.nil_sublist _), ?_⟩; go_frame)
  repeat ((refine AQ ?_); (refine QV ?_; go_frame))
  refine at_e (by simp only [List.getElem?_toArray, List.getElem?_cons_succ, List.getElem?_cons_zero]; rfl) rfl ?_
  refine p_part hst (off := 9) (vs := [.int .i64 1, .int .i64 (co + c), .int .i64 of, .int .i64 0, .int .i64 0]) (by exact rfl) (by exact rfl) (by exact rfl) (.head (l' := [.int .i64 6, .int .i64 ty, .string sv, .string te, .string te, .string ByteArray.empty, .bool false, .bool false, .bool false, .int .i64 1, .int .i64 (co + c), .int .i64 of, .int .i64 0, .int .i64 0, .slice none 0 0, .slice none 0 0, .slice none 0 0, .slice none 0 0, .slice none 0 0])) rfl (by exact szn_of rfl rfl) (Nat.le_of_ble_eq_true rfl) rfl ?_
  clear hst
  intro w hst
  refine ⟨fun h => by first | exact absurd h (by decide) | exact hst.sub (List.nil_sublist _), ?_⟩
  go_frame
  unfold wpP
  go_wp2_with ((first | ((with_reducible refine at_load ?_); first | refine X1 hst ?_ | refine XW hst ?_) | ((with_reducible refine at_store ?_); (first | refine Y1 hst ?_ | refine YW hst ?_); clear hst; intro w hst)))
  refine ret_ct hst rfl rfl (by (repeat' (first | exact List.Mem.head _ | apply List.Mem.tail)); done) (by exact agg_of rfl rfl) rfl rfl ?_
  exact ⟨sv, none, 0, 0, 0, [], rfl, fun _ => HSV.out, Nat.le_refl _, .inl rfl, ⟨rfl, Nat.le_refl _⟩, hst.kp.below⟩
end Go.Proofs.YtpajcfkldnbpfaaGreatDoor
namespace Go.Proofs.YtpajcfkldnbpfaaGreatDoor
open Go.RowKit
theorem AstN.str {w : World} {c : Int} {a : NH} {ka : F NH} {c0 lo hi : Nat} (ha : AstN w c lo hi (.cons a ka .nil) [c0]) (h8 : a.kind = 8) : ∃ ba tk pb, Blk w c0 127 [ptr ba, ptr tk, .string a.value] ∧ TokAt w c a tk pb := by
  obtain ⟨b', bs', ba, tk, pb, m1, mid, kb, e, -, -, htok, hba, hnode, hast, -⟩ := ha
  cases e
  rcases hnode with ⟨g, h⟩ | ⟨g, v, h, h'⟩ | ⟨g, v, h, h'⟩ | ⟨g, f, h⟩ | ⟨g, f, h, h'⟩ | ⟨g, h', h⟩ | ⟨g, h⟩ | ⟨g, k0, h', h⟩ | ⟨g, p, c, h1, h2, h⟩ | ⟨g, v0, v1, h', h⟩ | ⟨g, p, c, pc, cc, h1, h2, h3, h4, h⟩ | ⟨g, v0, v1, h', h⟩ | ⟨g, v0, h', h⟩ | ⟨g, v0, h', h⟩
  all_goals first | exact ⟨ba, tk, pb, h, htok⟩ | (exfalso; omega)
theorem leaf_of {h : NH} {k : F NH} (hok : NOK h k) (hk : h.kind ≤ 8) : k = .nil ∧ LeafN h ∧ h.flow = false := by
  rcases hok.2.2.2 with h1 | ⟨h1, _⟩ | ⟨h1, _⟩ | ⟨h1, _⟩ | ⟨h1, _⟩ | ⟨h1, _⟩ | ⟨h1, _⟩ | ⟨h1, _⟩
  · exact h1
  all_goals (exfalso; omega)
def infPos : Nat := 9218868437227405312
def infNeg : Nat := 18442240474082181120
structure FloatsOK : Prop where
  any : ∀ f, FFC f (fun _ => True)
  pos : FFC 9218868437227405312 (fun s => s = ⟨#[43, 73, 110, 102]⟩)
  neg : FFC 18442240474082181120 (fun s => s = ⟨#[45, 73, 110, 102]⟩)
theorem alone_any (hF : FloatsOK) (c : Int) (h : NH) (k : F NH) (b lo hi : Nat) (w0 : World) (ha : AstN w0 c lo hi (.cons h k .nil) [b]) (hok : NOK h k) (hk1 : k.len ≤ 1000) (hT : Tabs w0) : Calls Tryz.prog 19 #[nodeV h b] w0 (AloneR c h k w0) := by
  obtain ⟨b', bs', ba, tk, pb, m1, mid, kb, e, -, -, htok, hba, hnode, hast, -⟩ := ha
  cases e
  have hlen := hast.len
  have hcases := hnode
  unfold nodeV
  rcases hnode with ⟨g, h0⟩ | ⟨g, v, h0, h'⟩ | ⟨g, v, h0, h'⟩ | ⟨g, f, h0⟩ | ⟨g, f, h0, h'⟩ | ⟨g, h', h0⟩ | ⟨g, h0⟩ | ⟨g, k0, h', h0⟩ | ⟨g, p, cc, h1, h2, h0⟩ | ⟨g, v0, v1, h', h0⟩ | ⟨g, p, cc, pc, ccc, h1, h2, h3, h4, h0⟩ | ⟨g, v0, v1, h', h0⟩ | ⟨g, v0, h', h0⟩ | ⟨g, v0, h', h0⟩
  · obtain ⟨rfl, hl, hf⟩ := leaf_of hok (by omega)
    rw [show tyOf h.kind = 106 by rw [g]; rfl]
    have hv : h.value = ByteArray.empty := by
      rcases hl with h1 | ⟨h1, h2⟩ | ⟨h1, h2⟩ | ⟨h1, h2⟩ | ⟨h1, h2⟩ | ⟨h1, h2⟩ | ⟨h1, h2⟩
      all_goals first | exact h2 | (exfalso; omega)
    exact alone_2 c h b ba tk pb w0 g hv h0 hba htok hf
  · obtain ⟨rfl, hl, hf⟩ := leaf_of hok (by omega)
    rw [show tyOf h.kind = 109 by rw [g]; rfl]
    exact alone_3 c h v b ba tk pb w0 g h0 hba htok ⟨hf, h'⟩
  · obtain ⟨rfl, hl, hf⟩ := leaf_of hok (by omega)
    rw [show tyOf h.kind = 113 by rw [g]; rfl]
    exact alone_4 c h v b ba tk pb w0 g h0 hba htok ⟨hf, h', hT⟩
  · obtain ⟨rfl, hl, hf⟩ := leaf_of hok (by omega)
    rw [show tyOf h.kind = 117 by rw [g]; rfl]
    exact alone_5 c h f b ba tk pb w0 g h0 hba htok ⟨hf, hT, hF.any f⟩
  · obtain ⟨rfl, hl, hf⟩ := leaf_of hok (by omega)
    rw [show tyOf h.kind = 120 by rw [g]; rfl]
    refine alone_6 c h f b ba tk pb w0 g h0 hba htok ⟨hf, hT, ?_⟩
    rcases h' with ⟨rfl, h2⟩ | ⟨rfl, h2⟩
    · rw [h2]; exact hF.pos
    · rw [h2]; exact hF.neg
  · obtain ⟨rfl, hl, hf⟩ := leaf_of hok (by omega)
    rw [show tyOf h.kind = 123 by rw [g]; rfl]
    exact alone_7 c h b ba tk pb w0 g h0 hba htok ⟨hf, h'⟩
  · obtain ⟨rfl, hl, hf⟩ := leaf_of hok (by omega)
    rw [show tyOf h.kind = 125 by rw [g]; rfl]
    exact alone_8 c h b ba tk pb w0 g h0 hba htok hf
  · rw [show tyOf h.kind = 130 by rw [g]; rfl]
    rcases hok.2.2.2 with ⟨_, h1, _⟩ | ⟨_, hf, a, rfl, h8, hv⟩ | ⟨h1, _⟩ | ⟨h1, _⟩ | ⟨h1, _⟩ | ⟨h1, _⟩ | ⟨h1, _⟩ | ⟨h1, _⟩
    · exfalso; unfold LeafN at h1; omega
    · subst h'
      obtain ⟨ba0, tk0, pb0, hs, -⟩ := hast.str h8
      exact alone_10 c h a k0 ba0 tk0 m1 mid b ba tk pb w0 g h0 hba htok ⟨⟨⟨hv, hf⟩, hast⟩, hs, h8⟩
    all_goals (exfalso; omega)
  · rw [show tyOf h.kind = 133 by rw [g]; rfl]
    rcases hok.2.2.2 with ⟨_, h5, _⟩ | ⟨h5, _⟩ | ⟨_, hv, h13⟩ | ⟨h5, _⟩ | ⟨h5, _⟩ | ⟨h5, _⟩ | ⟨h5, _⟩ | ⟨h5, _⟩
    · exfalso; unfold LeafN at h5; omega
    · exfalso; omega
    · rw [hlen] at h0 h1
      exact alone_11 c h k kb m1 mid cc p b ba tk pb w0 g h0 hba htok ⟨hv, h2, hast, h1, h13, hk1⟩
    all_goals (exfalso; omega)
  · rw [show tyOf h.kind = 137 by rw [g]; rfl]
    rcases hok.2.2.2 with ⟨_, h5, _⟩ | ⟨h5, _⟩ | ⟨h5, _⟩ | ⟨_, hv, a, a2, ka2, rfl, _⟩ | ⟨h5, _⟩ | ⟨h5, _⟩ | ⟨h5, _⟩ | ⟨h5, _⟩
    · exfalso; unfold LeafN at h5; omega
    · exfalso; omega
    · exfalso; omega
    · obtain ⟨c0, bs0, mid0, rfl, -, hast2⟩ := AstN.head hast
      obtain ⟨c1, bs1, mid1, rfl, -, rfl, -⟩ := AstN.head hast2
      cases h'
      exact alone_13 c h a a2 .nil ka2 c0 c1 m1 mid b ba tk pb w0 g h0 hba htok ⟨hv, hast⟩
    all_goals (exfalso; omega)
  · rw [show tyOf h.kind = 145 by rw [g]; rfl]
    rcases hok.2.2.2 with ⟨_, h5, _⟩ | ⟨h5, _⟩ | ⟨h5, _⟩ | ⟨h5, _⟩ | ⟨_, hv⟩ | ⟨h5, _⟩ | ⟨h5, _⟩ | ⟨h5, _⟩
    · exfalso; unfold LeafN at h5; omega
    · exfalso; omega
    · exfalso; omega
    · exfalso; omega
    · rw [hlen] at h0 h1
      exact alone_14 c h k kb m1 mid cc ccc p pc b ba tk pb w0 g h0 hba htok ⟨hv, h3, hast, h1⟩
    all_goals (exfalso; omega)
  · rw [show tyOf h.kind = 150 by rw [g]; rfl]
    rcases hok.2.2.2 with ⟨_, h5, _⟩ | ⟨h5, _⟩ | ⟨h5, _⟩ | ⟨h5, _⟩ | ⟨h5, _⟩ | ⟨_, hf, a, a2, ka2, rfl, h8, hv⟩ | ⟨h5, _⟩ | ⟨h5, _⟩
    · exfalso; unfold LeafN at h5; omega
    · exfalso; omega
    · exfalso; omega
    · exfalso; omega
    · exfalso; omega
    · obtain ⟨c0, bs0, mid0, rfl, hc0, hast2⟩ := AstN.head hast
      obtain ⟨c1, bs1, mid1, rfl, -, rfl, -⟩ := AstN.head hast2
      cases h'
      obtain ⟨ba0, tk0, pb0, hs, ht0⟩ := hc0.str h8
      have e1 : nodeV a c0 = .iface 125 (ptr c0) := by unfold nodeV; rw [h8]; rfl
      rw [e1] at h0
      exact alone_16 c h a a2 .nil ka2 c0 c1 ba0 tk0 pb0 m1 mid _ b ba tk pb w0 g h0 hba htok ⟨⟨⟨hv, hf⟩, hast⟩, hs, ht0, h8⟩
    all_goals (exfalso; omega)
  · rw [show tyOf h.kind = 154 by rw [g]; rfl]
    rcases hok.2.2.2 with ⟨_, h5, _⟩ | ⟨h5, _⟩ | ⟨h5, _⟩ | ⟨h5, _⟩ | ⟨h5, _⟩ | ⟨h5, _⟩ | ⟨_, hf, a, rfl, h8, hv⟩ | ⟨h5, _⟩
    · exfalso; unfold LeafN at h5; omega
    · exfalso; omega
    · exfalso; omega
    · exfalso; omega
    · exfalso; omega
    · exfalso; omega
    · obtain ⟨c0, bs0, mid0, rfl, hc0, rfl, -⟩ := AstN.head hast
      cases h'
      obtain ⟨ba0, tk0, pb0, hs, ht0⟩ := hc0.str h8
      have e1 : nodeV a c0 = .iface 125 (ptr c0) := by unfold nodeV; rw [h8]; rfl
      rw [e1] at h0
      exact alone_17 c h a .nil c0 ba0 tk0 pb0 m1 mid _ b ba tk pb w0 g h0 hba htok ⟨⟨⟨hv, hf⟩, hast⟩, hs, ht0, h8⟩
    · exfalso; omega
  · rw [show tyOf h.kind = 159 by rw [g]; rfl]
    rcases hok.2.2.2 with ⟨_, h5, _⟩ | ⟨h5, _⟩ | ⟨h5, _⟩ | ⟨h5, _⟩ | ⟨h5, _⟩ | ⟨h5, _⟩ | ⟨h5, _⟩ | ⟨_, hf, hv, a, ka, rfl⟩
    · exfalso; unfold LeafN at h5; omega
    · exfalso; omega
    · exfalso; omega
    · exfalso; omega
    · exfalso; omega
    · exfalso; omega
    · exfalso; omega
    · obtain ⟨c0, bs0, mid0, rfl, hc0, rfl, -⟩ := AstN.head hast
      cases h'
      exact alone_19 c h a ka c0 m1 mid b ba tk pb w0 g h0 hba htok ⟨⟨hv, hf⟩, hast⟩
end Go.Proofs.YtpajcfkldnbpfaaGreatDoor
