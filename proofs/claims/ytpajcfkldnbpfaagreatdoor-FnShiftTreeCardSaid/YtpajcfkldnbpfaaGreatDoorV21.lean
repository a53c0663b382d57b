/- alone: literals. alone: aliases. -/
import Derived.Test.YtpajcfkldnbpfaaGreatDoorV19
set_option linter.unusedSimpArgs false
set_option linter.unusedVariables false
namespace Go.Proofs.YtpajcfkldnbpfaaGreatDoor
open Go.RowKit
set_option maxRecDepth 100000 in
set_option maxHeartbeats 4000000 in
theorem alone_10 (c : Int) (h : NH) (a : NH) (c0 ba0 tk0 lo hi : Nat) (b ba tk pb : Nat) (w0 : World) (hk : h.kind = 10) (hblk : Blk w0 b 132 [ptr ba, ptr tk, ptr c0]) (hba : Blk w0 ba 235 [.string ByteArray.empty, .pointer none, .int .i64 0]) (ht : TokAt w0 c h tk pb) (hv : ((h.value = a.value ∧ h.flow = false) ∧ AstN w0 c lo hi (.cons a .nil .nil) [c0]) ∧ Blk w0 c0 127 [ptr ba0, ptr tk0, .string a.value] ∧ a.kind = 8) : Calls Tryz.prog 19 #[.iface 130 (ptr b)] w0 (AloneR c h (.cons a .nil .nil) w0) := by
  have HB := Lib.hid (And.intro hblk (And.intro hba (And.intro ht hv)))
  clear hblk hba ht hv
  obtain ⟨kd, ty, va, te, fl, co, of⟩ := h
  simp only at hk
  subst hk
  obtain rfl : fl = false := HB.out.2.2.2.1.1.2
  ((have ta101 := fun v xT w => ta_miss (t := 130) 101 (by decide) (by decide) v xT w; have ta106 := fun v xT w => ta_miss (t := 130) 106 (by decide) (by decide) v xT w; have ta109 := fun v xT w => ta_miss (t := 130) 109 (by decide) (by decide) v xT w; have ta113 := fun v xT w => ta_miss (t := 130) 113 (by decide) (by decide) v xT w; have ta117 := fun v xT w => ta_miss (t := 130) 117 (by decide) (by decide) v xT w; have ta120 := fun v xT w => ta_miss (t := 130) 120 (by decide) (by decide) v xT w; have ta123 := fun v xT w => ta_miss (t := 130) 123 (by decide) (by decide) v xT w; have ta125 := fun v xT w => ta_miss (t := 130) 125 (by decide) (by decide) v xT w; have ta128 := fun v xT w => ta_miss (t := 130) 128 (by decide) (by decide) v xT w; have ta130 := fun v xT w => ta_hit 130 (by decide) v xT w); have hst := St.nil w0.heap.size ⟨[], []⟩ w0 (Nat.le_refl _); go_enter Tryz.func19, Tryz.ntmps19; go_wp2_with ((first | ((with_reducible refine at_load ?_); first | refine X1 hst ?_ | refine XW hst ?_) | ((with_reducible refine at_store ?_); (first | refine Y1 hst ?_ | refine YW hst ?_); clear hst; intro w hst) | ((first | ((with_reducible refine at_alloc ?_); refine ZP hst ?_) | ((with_reducible refine at_box ?_); refine ZP hst ?_) | ((with_reducible refine at_bslice ?_); refine ZS hst ?_)); clear hst; (first | ((fail_if_success have := b0); intro b0 w hb0 hst) | ((fail_if_success have := b1); intro b1 w hb1 hst) | ((fail_if_success have := b2); intro b2 w hb2 hst) | (intro b3 w hb3 hst))))); refine (type10 _ _).mono ?_; rintro e w1 ⟨rfl, rfl⟩; have hc0 := (HB.out.1.below hst.kp.below).cell (off := 0) rfl; have hp1 := prom_path (t := 130) (S := 132) (by decide) hc0; have hp2 := prom_comment (t := 130) (S := 132) (by decide) hc0; go_wp2_with ((first | ((with_reducible refine at_load ?_); first | refine X1 hst ?_ | refine XW hst ?_) | ((with_reducible refine at_store ?_); (first | refine Y1 hst ?_ | refine YW hst ?_); clear hst; intro w hst) | ((first | ((with_reducible refine at_alloc ?_); refine ZP hst ?_) | ((with_reducible refine at_box ?_); refine ZP hst ?_) | ((with_reducible refine at_bslice ?_); refine ZS hst ?_)); clear hst; (first | ((fail_if_success have := b0); intro b0 w hb0 hst) | ((fail_if_success have := b1); intro b1 w hb1 hst) | ((fail_if_success have := b2); intro b2 w hb2 hst) | (intro b3 w hb3 hst))))); (refine (getPath_any ba _ (HB.out.2.1.below hst.kp.below)).mono ?_; rintro e w1 ⟨rfl, rfl⟩); go_wp2_with ((first | ((with_reducible refine at_load ?_); first | refine X1 hst ?_ | refine XW hst ?_) | ((with_reducible refine at_store ?_); (first | refine Y1 hst ?_ | refine YW hst ?_); clear hst; intro w hst) | ((first | ((with_reducible refine at_alloc ?_); refine ZP hst ?_) | ((with_reducible refine at_box ?_); refine ZP hst ?_) | ((with_reducible refine at_bslice ?_); refine ZS hst ?_)); clear hst; (first | ((fail_if_success have := b0); intro b0 w hb0 hst) | ((fail_if_success have := b1); intro b1 w hb1 hst) | ((fail_if_success have := b2); intro b2 w hb2 hst) | (intro b3 w hb3 hst))))); (refine (getComment_any ba _ (HB.out.2.1.below hst.kp.below)).mono ?_; rintro e w1 ⟨rfl, rfl⟩); go_wp2_with ((first | ((with_reducible refine at_load ?_); first | refine X1 hst ?_ | refine XW hst ?_) | ((with_reducible refine at_store ?_); (first | refine Y1 hst ?_ | refine YW hst ?_); clear hst; intro w hst) | ((first | ((with_reducible refine at_alloc ?_); refine ZP hst ?_) | ((with_reducible refine at_box ?_); refine ZP hst ?_) | ((with_reducible refine at_bslice ?_); refine ZS hst ?_)); clear hst; (first | ((fail_if_success have := b0); intro b0 w hb0 hst) | ((fail_if_success have := b1); intro b1 w hb1 hst) | ((fail_if_success have := b2); intro b2 w hb2 hst) | (intro b3 w hb3 hst))))); (refine (told_nil _).mono ?_; rintro e w1 ⟨rfl, rfl⟩); clear hc0 hp1 hp2)
  go_upto_region 37 with (first | ((with_reducible refine at_load ?_); refine wl_ldc1 rfl rfl rfl ((HB.out.1.below hst.kp.below).cell (off := 1) rfl) (one_of (by decide +kernel)) ?_) | ((with_reducible refine at_load ?_); refine wl_ldc1 rfl rfl rfl ((HB.out.1.below hst.kp.below).cell (off := 2) rfl) (one_of (by decide +kernel)) ?_) | (first | ((with_reducible refine at_load ?_); first | refine X1 hst ?_ | refine XW hst ?_) | ((with_reducible refine at_store ?_); (first | refine Y1 hst ?_ | refine YW hst ?_); clear hst; intro w hst) | ((first | ((with_reducible refine at_alloc ?_); refine ZP hst ?_) | ((with_reducible refine at_box ?_); refine ZP hst ?_) | ((with_reducible refine at_bslice ?_); refine ZS hst ?_)); clear hst; (first | ((fail_if_success have := b0); intro b0 w hb0 hst) | ((fail_if_success have := b1); intro b1 w hb1 hst) | ((fail_if_success have := b2); intro b2 w hb2 hst) | (intro b3 w hb3 hst)))))
  refine wp_plan (fun w => St w0.heap.size ⟨[], []⟩ w0 w []) [0, 1, 2, 3, 4, 5, 6, 7, 8, 9, 10, 11, 13, 15] (.q 0 (.q 1 (.q 2 (.q 3 (.q 4 (.q 5 (.q 6 (.q 7 (.q 8 (.q 9 (.q 10 (.q 11 (.q 13 (.e2 12 true (.e 14 true (.q 15 (.fin))) 14 true (.e 12 true (.q 15 (.fin))))))))))))))))) mixed (by kernel_rfl) (by kernel_rfl) (by kernel_rfl) (fun d v c a w h => by cases d <;> exact h) (hst.drew.sub (List.nil_sublist _)) ?_
  replace hst := hst.drew
  repeat ((refine AQ ?_); first | (refine p_ldc1 (q := ⟨b, 2, none⟩) (fun w hS => (HB.out.1.below hS.kp.below).cell (off := 2) rfl) rfl rfl rfl (one_of (by decide +kernel)) ?_; go_frame) | (refine p_ldc1 (q := ⟨c0, 2, none⟩) (fun w hS => (HB.out.2.2.2.2.1.below hS.kp.below).cell (off := 2) rfl) rfl rfl rfl (one_of (by decide +kernel)) ?_; go_frame) | (refine QV ?_; go_frame))
  refine at_e2 (by simp only [List.getElem?_toArray, List.getElem?_cons_succ, List.getElem?_cons_zero]; rfl) rfl (by simp only [List.getElem?_toArray, List.getElem?_cons_succ, List.getElem?_cons_zero]; rfl) rfl ?_ ?_
  · refine p_newS hst (by go_simp; first | rfl | exact ⟨⟨rfl, rfl⟩, rfl⟩) ?_
    clear hst
    intro b2 w hb2 hst
    refine ⟨fun _ => hst.sub (List.nil_sublist _), ?_⟩
    go_frame
    refine at_e (by simp only [List.getElem?_toArray, List.getElem?_cons_succ, List.getElem?_cons_zero]; rfl) rfl ?_
    refine E1 hst ?_
    clear hst
    intro w hst
    refine ⟨fun _ => hst.sub (List.nil_sublist _), ?_⟩
    go_frame
    repeat ((refine AQ ?_); (refine QV ?_; go_frame))
    unfold wpP
    go_upto_region 77 with ((first | ((with_reducible refine at_load ?_); first | refine X1 hst ?_ | refine XW hst ?_) | ((with_reducible refine at_store ?_); (first | refine Y1 hst ?_ | refine YW hst ?_); clear hst; intro w hst)))
    refine wp_plan (fun w => St w0.heap.size ⟨[], []⟩ w0 w []) [0, 1, 2, 3, 4, 5, 6, 7, 8, 9, 10, 11, 12, 14, 16, 18, 20] (.q 0 (.q 1 (.q 2 (.q 3 (.q 4 (.q 5 (.q 6 (.q 7 (.q 8 (.q 9 (.q 10 (.q 11 (.q 12 (.q 14 (.e 13 true (.e 15 true (.q 16 (.e 17 true (.q 18 (.e 19 true (.q 20 (.e 21 false (.fin))))))))))))))))))))))) mixed (by kernel_rfl) (by kernel_rfl) (by kernel_rfl) (fun d v c a w h => by cases d <;> exact h) (hst.drew.sub (List.nil_sublist _)) ?_
    replace hst := hst.drew
    repeat ((refine AQ ?_); first | (first | (refine p_ldc1 (q := ⟨tk, 0, none⟩) (fun w hS => (HB.out.2.2.1.1.below hS.kp.below).cell (off := 0) rfl) rfl rfl rfl (one_of (by decide +kernel)) ?_; go_frame) | (refine p_ldc1 (q := ⟨tk, 3, none⟩) (fun w hS => (HB.out.2.2.1.1.below hS.kp.below).cell (off := 3) rfl) rfl rfl rfl (one_of (by decide +kernel)) ?_; go_frame) | (refine p_ldc1 (q := ⟨tk, 4, none⟩) (fun w hS => (HB.out.2.2.1.1.below hS.kp.below).cell (off := 4) rfl) rfl rfl rfl (one_of (by decide +kernel)) ?_; go_frame)) | (refine QV ?_; go_frame))
    refine at_e (by simp only [List.getElem?_toArray, List.getElem?_cons_succ, List.getElem?_cons_zero]; rfl) rfl ?_
    refine e_call (by go_simp <;> first | rfl | exact ⟨rfl, rfl⟩) (placeA_any c tk pb _ _ (HB.out.2.2.1.below hst.kp.below)) ?_
    rintro e w4 ⟨rfl, hb⟩
    replace hst := hst.below hb
    refine ⟨_, rfl, fun _ => hst.sub (List.nil_sublist _), ?_⟩
    go_frame
    (refine at_e (by simp only [List.getElem?_toArray, List.getElem?_cons_succ, List.getElem?_cons_zero]; rfl) rfl ?_; refine E1 hst ?_; clear hst; intro w hst; refine ⟨fun _ => hst.sub (List.nil_sublist _), ?_⟩; go_frame)
    repeat ((refine AQ ?_); (refine QV ?_; go_frame))
    (refine at_e (by simp only [List.getElem?_toArray, List.getElem?_cons_succ, List.getElem?_cons_zero]; rfl) rfl ?_; refine E1 hst ?_; clear hst; intro w hst; refine ⟨fun _ => hst.sub (List.nil_sublist _), ?_⟩; go_frame)
    repeat ((refine AQ ?_); (refine QV ?_; go_frame))
    (refine at_e (by simp only [List.getElem?_toArray, List.getElem?_cons_succ, List.getElem?_cons_zero]; rfl) rfl ?_; refine E1 hst ?_; clear hst; intro w hst; refine ⟨fun _ => hst.sub (List.nil_sublist _), ?_⟩; go_frame)
    repeat ((refine AQ ?_); (refine QV ?_; go_frame))
    refine at_e (by simp only [List.getElem?_toArray, List.getElem?_cons_succ, List.getElem?_cons_zero]; rfl) rfl ?_
    refine p_part hst (off := 9) (vs := [.int .i64 1, .int .i64 (co + c), .int .i64 of, .int .i64 0, .int .i64 0]) (by exact rfl) (by exact rfl) (by exact rfl) (.tail (.head (l' := [.int .i64 10, .int .i64 ty, .string a.value, .string te, .string te, .string ByteArray.empty, .bool false, .bool false, .bool false, .int .i64 1, .int .i64 (co + c), .int .i64 of, .int .i64 0, .int .i64 0, .slice none 0 0, .slice none 0 0, .slice none 0 0, .slice none 0 0, .slice none 0 0]))) rfl (by exact szn_of rfl rfl) (Nat.le_of_ble_eq_true rfl) rfl ?_
    clear hst
    intro w hst
    refine ⟨fun h => by first | exact absurd h (by decide) | exact hst.sub (List.nil_sublist _), ?_⟩
    go_frame
    unfold wpP
    go_wp2_with ((first | ((with_reducible refine at_load ?_); first | refine X1 hst ?_ | refine XW hst ?_) | ((with_reducible refine at_store ?_); (first | refine Y1 hst ?_ | refine YW hst ?_); clear hst; intro w hst)))
    refine ret_ct hst rfl rfl (by (repeat' (first | exact List.Mem.head _ | apply List.Mem.tail)); done) (by exact agg_of rfl rfl) rfl rfl ?_
    exact ⟨a.value, some ⟨b2, 0, none⟩, 1, lo, hi, [c0], rfl, fun _ => HB.out.2.2.2.1.1.1.symm, Nat.le_refl _, .inr ⟨b2, [], rfl, by simp only [ifs, nodeV]; rw [HB.out.2.2.2.2.2]; exact hst.blk (b := b2) (by (repeat' (first | exact List.Mem.head _ | apply List.Mem.tail)); done)⟩, HB.out.2.2.2.1.2.below hst.kp.below, hst.kp.below⟩
  · refine E1 hst ?_
    clear hst
    intro w hst
    refine ⟨fun _ => hst.sub (List.nil_sublist _), ?_⟩
    go_frame
    refine at_e (by simp only [List.getElem?_toArray, List.getElem?_cons_succ, List.getElem?_cons_zero]; rfl) rfl ?_
    refine p_newS hst (by go_simp; first | rfl | exact ⟨⟨rfl, rfl⟩, rfl⟩) ?_
    clear hst
    intro b2 w hb2 hst
    refine ⟨fun _ => hst.sub (List.nil_sublist _), ?_⟩
    go_frame
    repeat ((refine AQ ?_); (refine QV ?_; go_frame))
    unfold wpP
    go_upto_region 77 with ((first | ((with_reducible refine at_load ?_); first | refine X1 hst ?_ | refine XW hst ?_) | ((with_reducible refine at_store ?_); (first | refine Y1 hst ?_ | refine YW hst ?_); clear hst; intro w hst)))
    refine wp_plan (fun w => St w0.heap.size ⟨[], []⟩ w0 w []) [0, 1, 2, 3, 4, 5, 6, 7, 8, 9, 10, 11, 12, 14, 16, 18, 20] (.q 0 (.q 1 (.q 2 (.q 3 (.q 4 (.q 5 (.q 6 (.q 7 (.q 8 (.q 9 (.q 10 (.q 11 (.q 12 (.q 14 (.e 13 true (.e 15 true (.q 16 (.e 17 true (.q 18 (.e 19 true (.q 20 (.e 21 false (.fin))))))))))))))))))))))) mixed (by kernel_rfl) (by kernel_rfl) (by kernel_rfl) (fun d v c a w h => by cases d <;> exact h) (hst.drew.sub (List.nil_sublist _)) ?_
    replace hst := hst.drew
    repeat ((refine AQ ?_); first | (first | (refine p_ldc1 (q := ⟨tk, 0, none⟩) (fun w hS => (HB.out.2.2.1.1.below hS.kp.below).cell (off := 0) rfl) rfl rfl rfl (one_of (by decide +kernel)) ?_; go_frame) | (refine p_ldc1 (q := ⟨tk, 3, none⟩) (fun w hS => (HB.out.2.2.1.1.below hS.kp.below).cell (off := 3) rfl) rfl rfl rfl (one_of (by decide +kernel)) ?_; go_frame) | (refine p_ldc1 (q := ⟨tk, 4, none⟩) (fun w hS => (HB.out.2.2.1.1.below hS.kp.below).cell (off := 4) rfl) rfl rfl rfl (one_of (by decide +kernel)) ?_; go_frame)) | (refine QV ?_; go_frame))
    refine at_e (by simp only [List.getElem?_toArray, List.getElem?_cons_succ, List.getElem?_cons_zero]; rfl) rfl ?_
    refine e_call (by go_simp <;> first | rfl | exact ⟨rfl, rfl⟩) (placeA_any c tk pb _ _ (HB.out.2.2.1.below hst.kp.below)) ?_
    rintro e w4 ⟨rfl, hb⟩
    replace hst := hst.below hb
    refine ⟨_, rfl, fun _ => hst.sub (List.nil_sublist _), ?_⟩
    go_frame
    (refine at_e (by simp only [List.getElem?_toArray, List.getElem?_cons_succ, List.getElem?_cons_zero]; rfl) rfl ?_; refine E1 hst ?_; clear hst; intro w hst; refine ⟨fun _ => hst.sub (List.nil_sublist _), ?_⟩; go_frame)
    repeat ((refine AQ ?_); (refine QV ?_; go_frame))
    (refine at_e (by simp only [List.getElem?_toArray, List.getElem?_cons_succ, List.getElem?_cons_zero]; rfl) rfl ?_; refine E1 hst ?_; clear hst; intro w hst; refine ⟨fun _ => hst.sub (List.nil_sublist _), ?_⟩; go_frame)
    repeat ((refine AQ ?_); (refine QV ?_; go_frame))
    (refine at_e (by simp only [List.getElem?_toArray, List.getElem?_cons_succ, List.getElem?_cons_zero]; rfl) rfl ?_; refine E1 hst ?_; clear hst; intro w hst; refine ⟨fun _ => hst.sub (List.nil_sublist _), ?_⟩; go_frame)
    repeat ((refine AQ ?_); (refine QV ?_; go_frame))
    refine at_e (by simp only [List.getElem?_toArray, List.getElem?_cons_succ, List.getElem?_cons_zero]; rfl) rfl ?_
    refine p_part hst (off := 9) (vs := [.int .i64 1, .int .i64 (co + c), .int .i64 of, .int .i64 0, .int .i64 0]) (by exact rfl) (by exact rfl) (by exact rfl) (.tail (.head (l' := [.int .i64 10, .int .i64 ty, .string a.value, .string te, .string te, .string ByteArray.empty, .bool false, .bool false, .bool false, .int .i64 1, .int .i64 (co + c), .int .i64 of, .int .i64 0, .int .i64 0, .slice none 0 0, .slice none 0 0, .slice none 0 0, .slice none 0 0, .slice none 0 0]))) rfl (by exact szn_of rfl rfl) (Nat.le_of_ble_eq_true rfl) rfl ?_
    clear hst
    intro w hst
    refine ⟨fun h => by first | exact absurd h (by decide) | exact hst.sub (List.nil_sublist _), ?_⟩
    go_frame
    unfold wpP
    go_wp2_with ((first | ((with_reducible refine at_load ?_); first | refine X1 hst ?_ | refine XW hst ?_) | ((with_reducible refine at_store ?_); (first | refine Y1 hst ?_ | refine YW hst ?_); clear hst; intro w hst)))
    refine ret_ct hst rfl rfl (by (repeat' (first | exact List.Mem.head _ | apply List.Mem.tail)); done) (by exact agg_of rfl rfl) rfl rfl ?_
    exact ⟨a.value, some ⟨b2, 0, none⟩, 1, lo, hi, [c0], rfl, fun _ => HB.out.2.2.2.1.1.1.symm, Nat.le_refl _, .inr ⟨b2, [], rfl, by simp only [ifs, nodeV]; rw [HB.out.2.2.2.2.2]; exact hst.blk (b := b2) (by (repeat' (first | exact List.Mem.head _ | apply List.Mem.tail)); done)⟩, HB.out.2.2.2.1.2.below hst.kp.below, hst.kp.below⟩
end Go.Proofs.YtpajcfkldnbpfaaGreatDoor
namespace Go.Proofs.YtpajcfkldnbpfaaGreatDoor
open Go.RowKit
set_option maxRecDepth 100000 in
set_option maxHeartbeats 4000000 in
theorem alone_17 (c : Int) (h : NH) (a : NH) (ka : F NH) (c0 ba0 tk0 pb0 lo hi : Nat) (v0 : Value) (b ba tk pb : Nat) (w0 : World) (hk : h.kind = 17) (hblk : Blk w0 b 155 [ptr ba, ptr tk, .iface 125 (ptr c0)]) (hba : Blk w0 ba 235 [.string ByteArray.empty, .pointer none, .int .i64 0]) (ht : TokAt w0 c h tk pb) (hv : ((h.value = a.text ∧ h.flow = false) ∧ AstN w0 c lo hi (.cons a ka .nil) [c0]) ∧ Blk w0 c0 127 [ptr ba0, ptr tk0, v0] ∧ TokAt w0 c a tk0 pb0 ∧ a.kind = 8) : Calls Tryz.prog 19 #[.iface 154 (ptr b)] w0 (AloneR c h (.cons a ka .nil) w0) := by
  have HB := Lib.hid (And.intro hblk (And.intro hba (And.intro ht hv)))
  clear hblk hba ht hv
  obtain ⟨kd, ty, va, te, fl, co, of⟩ := h
  simp only at hk
  subst hk
  obtain rfl : fl = false := HB.out.2.2.2.1.1.2
  ((have ta101 := fun v xT w => ta_miss (t := 154) 101 (by decide) (by decide) v xT w; have ta106 := fun v xT w => ta_miss (t := 154) 106 (by decide) (by decide) v xT w; have ta109 := fun v xT w => ta_miss (t := 154) 109 (by decide) (by decide) v xT w; have ta113 := fun v xT w => ta_miss (t := 154) 113 (by decide) (by decide) v xT w; have ta117 := fun v xT w => ta_miss (t := 154) 117 (by decide) (by decide) v xT w; have ta120 := fun v xT w => ta_miss (t := 154) 120 (by decide) (by decide) v xT w; have ta123 := fun v xT w => ta_miss (t := 154) 123 (by decide) (by decide) v xT w; have ta125 := fun v xT w => ta_miss (t := 154) 125 (by decide) (by decide) v xT w; have ta128 := fun v xT w => ta_miss (t := 154) 128 (by decide) (by decide) v xT w; have ta130 := fun v xT w => ta_miss (t := 154) 130 (by decide) (by decide) v xT w; have ta133 := fun v xT w => ta_miss (t := 154) 133 (by decide) (by decide) v xT w; have ta138 := fun v xT w => ta_miss (t := 154) 138 (by decide) (by decide) v xT w; have ta137 := fun v xT w => ta_miss (t := 154) 137 (by decide) (by decide) v xT w; have ta145 := fun v xT w => ta_miss (t := 154) 145 (by decide) (by decide) v xT w; have ta150 := fun v xT w => ta_miss (t := 154) 150 (by decide) (by decide) v xT w; have ta154 := fun v xT w => ta_hit 154 (by decide) v xT w); have hst := St.nil w0.heap.size ⟨[], []⟩ w0 (Nat.le_refl _); go_enter Tryz.func19, Tryz.ntmps19; go_wp2_with ((first | ((with_reducible refine at_load ?_); first | refine X1 hst ?_ | refine XW hst ?_) | ((with_reducible refine at_store ?_); (first | refine Y1 hst ?_ | refine YW hst ?_); clear hst; intro w hst) | ((first | ((with_reducible refine at_alloc ?_); refine ZP hst ?_) | ((with_reducible refine at_box ?_); refine ZP hst ?_) | ((with_reducible refine at_bslice ?_); refine ZS hst ?_)); clear hst; (first | ((fail_if_success have := b0); intro b0 w hb0 hst) | ((fail_if_success have := b1); intro b1 w hb1 hst) | ((fail_if_success have := b2); intro b2 w hb2 hst) | (intro b3 w hb3 hst))))); refine (type17 _ _).mono ?_; rintro e w1 ⟨rfl, rfl⟩; have hc0 := (HB.out.1.below hst.kp.below).cell (off := 0) rfl; have hp1 := prom_path (t := 154) (S := 155) (by decide) hc0; have hp2 := prom_comment (t := 154) (S := 155) (by decide) hc0; go_wp2_with ((first | ((with_reducible refine at_load ?_); first | refine X1 hst ?_ | refine XW hst ?_) | ((with_reducible refine at_store ?_); (first | refine Y1 hst ?_ | refine YW hst ?_); clear hst; intro w hst) | ((first | ((with_reducible refine at_alloc ?_); refine ZP hst ?_) | ((with_reducible refine at_box ?_); refine ZP hst ?_) | ((with_reducible refine at_bslice ?_); refine ZS hst ?_)); clear hst; (first | ((fail_if_success have := b0); intro b0 w hb0 hst) | ((fail_if_success have := b1); intro b1 w hb1 hst) | ((fail_if_success have := b2); intro b2 w hb2 hst) | (intro b3 w hb3 hst))))); (refine (getPath_any ba _ (HB.out.2.1.below hst.kp.below)).mono ?_; rintro e w1 ⟨rfl, rfl⟩); go_wp2_with ((first | ((with_reducible refine at_load ?_); first | refine X1 hst ?_ | refine XW hst ?_) | ((with_reducible refine at_store ?_); (first | refine Y1 hst ?_ | refine YW hst ?_); clear hst; intro w hst) | ((first | ((with_reducible refine at_alloc ?_); refine ZP hst ?_) | ((with_reducible refine at_box ?_); refine ZP hst ?_) | ((with_reducible refine at_bslice ?_); refine ZS hst ?_)); clear hst; (first | ((fail_if_success have := b0); intro b0 w hb0 hst) | ((fail_if_success have := b1); intro b1 w hb1 hst) | ((fail_if_success have := b2); intro b2 w hb2 hst) | (intro b3 w hb3 hst))))); (refine (getComment_any ba _ (HB.out.2.1.below hst.kp.below)).mono ?_; rintro e w1 ⟨rfl, rfl⟩); go_wp2_with ((first | ((with_reducible refine at_load ?_); first | refine X1 hst ?_ | refine XW hst ?_) | ((with_reducible refine at_store ?_); (first | refine Y1 hst ?_ | refine YW hst ?_); clear hst; intro w hst) | ((first | ((with_reducible refine at_alloc ?_); refine ZP hst ?_) | ((with_reducible refine at_box ?_); refine ZP hst ?_) | ((with_reducible refine at_bslice ?_); refine ZS hst ?_)); clear hst; (first | ((fail_if_success have := b0); intro b0 w hb0 hst) | ((fail_if_success have := b1); intro b1 w hb1 hst) | ((fail_if_success have := b2); intro b2 w hb2 hst) | (intro b3 w hb3 hst))))); (refine (told_nil _).mono ?_; rintro e w1 ⟨rfl, rfl⟩); clear hc0 hp1 hp2)
  go_upto_region 61 with ((first | ((with_reducible refine at_load ?_); first | refine X1 hst ?_ | refine XW hst ?_) | ((with_reducible refine at_store ?_); (first | refine Y1 hst ?_ | refine YW hst ?_); clear hst; intro w hst) | ((first | ((with_reducible refine at_alloc ?_); refine ZP hst ?_) | ((with_reducible refine at_box ?_); refine ZP hst ?_) | ((with_reducible refine at_bslice ?_); refine ZS hst ?_)); clear hst; (first | ((fail_if_success have := b0); intro b0 w hb0 hst) | ((fail_if_success have := b1); intro b1 w hb1 hst) | ((fail_if_success have := b2); intro b2 w hb2 hst) | (intro b3 w hb3 hst)))))
  refine wp_plan (fun w => St w0.heap.size ⟨[], []⟩ w0 w []) [0, 1, 2, 3, 4, 5, 6, 7, 9, 10, 11, 12, 15, 16, 18] (.q 0 (.q 1 (.q 2 (.q 3 (.q 4 (.q 5 (.q 6 (.q 7 (.q 9 (.q 10 (.q 11 (.q 12 (.e2 8 true (.e 13 true (.e 14 true (.q 15 (.q 16 (.e 17 true (.q 18 (.fin))))))) 13 true (.e 8 true (.e 14 true (.q 15 (.q 16 (.e 17 true (.q 18 (.fin)))))))))))))))))))) mixed (by kernel_rfl) (by kernel_rfl) (by kernel_rfl) (fun d v c a w h => by cases d <;> exact h) (hst.drew.sub (List.nil_sublist _)) ?_
  replace hst := hst.drew
  repeat ((refine AQ ?_); first | (refine p_ldc1 (q := ⟨b, 1, none⟩) (fun w hS => (HB.out.1.below hS.kp.below).cell (off := 1) rfl) rfl rfl rfl (one_of (by decide +kernel)) ?_; go_frame) | (refine p_ldc1 (q := ⟨b, 2, none⟩) (fun w hS => (HB.out.1.below hS.kp.below).cell (off := 2) rfl) rfl rfl rfl (one_of (by decide +kernel)) ?_; go_frame) | (refine QV ?_; go_frame))
  refine at_e2 (by simp only [List.getElem?_toArray, List.getElem?_cons_succ, List.getElem?_cons_zero]; rfl) rfl (by simp only [List.getElem?_toArray, List.getElem?_cons_succ, List.getElem?_cons_zero]; rfl) rfl ?_ ?_
  · refine e_call (by go_simp <;> first | rfl | exact ⟨rfl, rfl⟩) (name_any c c0 ba0 tk0 pb0 v0 a _ (HB.out.2.2.2.2.1.below hst.kp.below) (HB.out.2.2.2.2.2.1.below hst.kp.below)) ?_
    rintro e w4 ⟨rfl, rfl⟩
    refine ⟨_, rfl, fun _ => hst.sub (List.nil_sublist _), ?_⟩
    go_frame
    refine at_e (by simp only [List.getElem?_toArray, List.getElem?_cons_succ, List.getElem?_cons_zero]; rfl) rfl ?_
    refine p_newS hst (by go_simp; first | rfl | exact ⟨⟨rfl, rfl⟩, rfl⟩) ?_
    clear hst
    intro b2 w hb2 hst
    refine ⟨fun _ => hst.sub (List.nil_sublist _), ?_⟩
    go_frame
    refine at_e (by simp only [List.getElem?_toArray, List.getElem?_cons_succ, List.getElem?_cons_zero]; rfl) rfl ?_
    refine e_call (by go_simp <;> first | rfl | exact ⟨rfl, rfl⟩) (some_any b2 1 [.iface 125 (ptr c0)] [] _ (hst.blk (b := b2) (by (repeat' (first | exact List.Mem.head _ | apply List.Mem.tail)); done)) (by intro v hv; simp only [List.mem_cons, List.not_mem_nil, or_false] at hv; subst hv; exact ⟨_, _, rfl⟩) (Nat.le_of_ble_eq_true rfl)) ?_
    rintro e w4 ⟨oid, cap, sp, rfl, hgr, hsm⟩
    obtain ⟨g, rfl⟩ : ∃ g, oid = some g := by
      cases oid with
      | none => have := hgr.nil rfl; have := hgr.len; have := hgr.le; simp at *; omega
      | some g => exact ⟨g, rfl⟩
    have hlg := hsm.row_lo (b := g) (by (repeat' (first | exact List.Mem.head _ | apply List.Mem.tail)); done)
    have hz4 := hst.kp.size
    replace hst := ((hst.below hsm.kp.below).sub (.cons _ (List.Sublist.refl _))).addAt (b := g) (by omega) (hsm.blk (b := g) (by (repeat' (first | exact List.Mem.head _ | apply List.Mem.tail)); done)) rfl
    have HG := Lib.hid hgr
    clear hgr hsm
    refine ⟨_, rfl, fun _ => hst.sub (List.nil_sublist _), ?_⟩
    go_frame
    repeat ((refine AQ ?_); (refine QV ?_; go_frame))
    (refine at_e (by simp only [List.getElem?_toArray, List.getElem?_cons_succ, List.getElem?_cons_zero]; rfl) rfl ?_; refine E1 hst ?_; clear hst; intro w hst; refine ⟨fun _ => hst.sub (List.nil_sublist _), ?_⟩; go_frame)
    repeat ((refine AQ ?_); (refine QV ?_; go_frame))
    unfold wpP
    go_upto_region 77 with ((first | ((with_reducible refine at_load ?_); first | refine X1 hst ?_ | refine XW hst ?_) | ((with_reducible refine at_store ?_); (first | refine Y1 hst ?_ | refine YW hst ?_); clear hst; intro w hst)))
    refine wp_plan (fun w => St w0.heap.size ⟨[], []⟩ w0 w []) [0, 1, 2, 3, 4, 5, 6, 7, 8, 9, 10, 11, 12, 14, 16, 18, 20] (.q 0 (.q 1 (.q 2 (.q 3 (.q 4 (.q 5 (.q 6 (.q 7 (.q 8 (.q 9 (.q 10 (.q 11 (.q 12 (.q 14 (.e 13 true (.e 15 true (.q 16 (.e 17 true (.q 18 (.e 19 true (.q 20 (.e 21 false (.fin))))))))))))))))))))))) mixed (by kernel_rfl) (by kernel_rfl) (by kernel_rfl) (fun d v c a w h => by cases d <;> exact h) (hst.drew.sub (List.nil_sublist _)) ?_
    replace hst := hst.drew
    repeat ((refine AQ ?_); first | (first | (refine p_ldc1 (q := ⟨tk, 0, none⟩) (fun w hS => (HB.out.2.2.1.1.below hS.kp.below).cell (off := 0) rfl) rfl rfl rfl (one_of (by decide +kernel)) ?_; go_frame) | (refine p_ldc1 (q := ⟨tk, 3, none⟩) (fun w hS => (HB.out.2.2.1.1.below hS.kp.below).cell (off := 3) rfl) rfl rfl rfl (one_of (by decide +kernel)) ?_; go_frame) | (refine p_ldc1 (q := ⟨tk, 4, none⟩) (fun w hS => (HB.out.2.2.1.1.below hS.kp.below).cell (off := 4) rfl) rfl rfl rfl (one_of (by decide +kernel)) ?_; go_frame)) | (refine QV ?_; go_frame))
    refine at_e (by simp only [List.getElem?_toArray, List.getElem?_cons_succ, List.getElem?_cons_zero]; rfl) rfl ?_
    refine e_call (by go_simp <;> first | rfl | exact ⟨rfl, rfl⟩) (placeA_any c tk pb _ _ (HB.out.2.2.1.below hst.kp.below)) ?_
    rintro e w4 ⟨rfl, hb⟩
    replace hst := hst.below hb
    refine ⟨_, rfl, fun _ => hst.sub (List.nil_sublist _), ?_⟩
    go_frame
    (refine at_e (by simp only [List.getElem?_toArray, List.getElem?_cons_succ, List.getElem?_cons_zero]; rfl) rfl ?_; refine E1 hst ?_; clear hst; intro w hst; refine ⟨fun _ => hst.sub (List.nil_sublist _), ?_⟩; go_frame)
    repeat ((refine AQ ?_); (refine QV ?_; go_frame))
    (refine at_e (by simp only [List.getElem?_toArray, List.getElem?_cons_succ, List.getElem?_cons_zero]; rfl) rfl ?_; refine E1 hst ?_; clear hst; intro w hst; refine ⟨fun _ => hst.sub (List.nil_sublist _), ?_⟩; go_frame)
    repeat ((refine AQ ?_); (refine QV ?_; go_frame))
    (refine at_e (by simp only [List.getElem?_toArray, List.getElem?_cons_succ, List.getElem?_cons_zero]; rfl) rfl ?_; refine E1 hst ?_; clear hst; intro w hst; refine ⟨fun _ => hst.sub (List.nil_sublist _), ?_⟩; go_frame)
    repeat ((refine AQ ?_); (refine QV ?_; go_frame))
    refine at_e (by simp only [List.getElem?_toArray, List.getElem?_cons_succ, List.getElem?_cons_zero]; rfl) rfl ?_
    refine p_part hst (off := 9) (vs := [.int .i64 1, .int .i64 (co + c), .int .i64 of, .int .i64 0, .int .i64 0]) (by exact rfl) (by exact rfl) (by exact rfl) (.tail (.head (l' := [.int .i64 17, .int .i64 ty, .string a.text, .string te, .string te, .string ByteArray.empty, .bool false, .bool false, .bool false, .int .i64 1, .int .i64 (co + c), .int .i64 of, .int .i64 0, .int .i64 0, .slice none 0 0, .slice none 0 0, .slice none 0 0, .slice none 0 0, .slice none 0 0]))) rfl (by exact szn_of rfl rfl) (Nat.le_of_ble_eq_true rfl) rfl ?_
    clear hst
    intro w hst
    refine ⟨fun h => by first | exact absurd h (by decide) | exact hst.sub (List.nil_sublist _), ?_⟩
    go_frame
    unfold wpP
    go_wp2_with ((first | ((with_reducible refine at_load ?_); first | refine X1 hst ?_ | refine XW hst ?_) | ((with_reducible refine at_store ?_); (first | refine Y1 hst ?_ | refine YW hst ?_); clear hst; intro w hst)))
    refine ret_ct hst rfl rfl (by (repeat' (first | exact List.Mem.head _ | apply List.Mem.tail)); done) (by exact agg_of rfl rfl) rfl rfl ?_
    exact ⟨a.text, some ⟨g, 0, none⟩, cap, lo, hi, [c0], rfl, fun _ => HB.out.2.2.2.1.1.1.symm, HG.out.le, .inr ⟨g, sp, rfl, by simp only [ifs, nodeV]; rw [HB.out.2.2.2.2.2.2]; exact hst.blk (b := g) (by (repeat' (first | exact List.Mem.head _ | apply List.Mem.tail)); done)⟩, HB.out.2.2.2.1.2.below hst.kp.below, hst.kp.below⟩
  · refine p_newS hst (by go_simp; first | rfl | exact ⟨⟨rfl, rfl⟩, rfl⟩) ?_
    clear hst
    intro b2 w hb2 hst
    refine ⟨fun _ => hst.sub (List.nil_sublist _), ?_⟩
    go_frame
    refine at_e (by simp only [List.getElem?_toArray, List.getElem?_cons_succ, List.getElem?_cons_zero]; rfl) rfl ?_
    refine e_call (by go_simp <;> first | rfl | exact ⟨rfl, rfl⟩) (name_any c c0 ba0 tk0 pb0 v0 a _ (HB.out.2.2.2.2.1.below hst.kp.below) (HB.out.2.2.2.2.2.1.below hst.kp.below)) ?_
    rintro e w4 ⟨rfl, rfl⟩
    refine ⟨_, rfl, fun _ => hst.sub (List.nil_sublist _), ?_⟩
    go_frame
    refine at_e (by simp only [List.getElem?_toArray, List.getElem?_cons_succ, List.getElem?_cons_zero]; rfl) rfl ?_
    refine e_call (by go_simp <;> first | rfl | exact ⟨rfl, rfl⟩) (some_any b2 1 [.iface 125 (ptr c0)] [] _ (hst.blk (b := b2) (by (repeat' (first | exact List.Mem.head _ | apply List.Mem.tail)); done)) (by intro v hv; simp only [List.mem_cons, List.not_mem_nil, or_false] at hv; subst hv; exact ⟨_, _, rfl⟩) (Nat.le_of_ble_eq_true rfl)) ?_
    rintro e w4 ⟨oid, cap, sp, rfl, hgr, hsm⟩
    obtain ⟨g, rfl⟩ : ∃ g, oid = some g := by
      cases oid with
      | none => have := hgr.nil rfl; have := hgr.len; have := hgr.le; simp at *; omega
      | some g => exact ⟨g, rfl⟩
    have hlg := hsm.row_lo (b := g) (by (repeat' (first | exact List.Mem.head _ | apply List.Mem.tail)); done)
    have hz4 := hst.kp.size
    replace hst := ((hst.below hsm.kp.below).sub (.cons _ (List.Sublist.refl _))).addAt (b := g) (by omega) (hsm.blk (b := g) (by (repeat' (first | exact List.Mem.head _ | apply List.Mem.tail)); done)) rfl
    have HG := Lib.hid hgr
    clear hgr hsm
    refine ⟨_, rfl, fun _ => hst.sub (List.nil_sublist _), ?_⟩
    go_frame
    repeat ((refine AQ ?_); (refine QV ?_; go_frame))
    (refine at_e (by simp only [List.getElem?_toArray, List.getElem?_cons_succ, List.getElem?_cons_zero]; rfl) rfl ?_; refine E1 hst ?_; clear hst; intro w hst; refine ⟨fun _ => hst.sub (List.nil_sublist _), ?_⟩; go_frame)
    repeat ((refine AQ ?_); (refine QV ?_; go_frame))
    unfold wpP
    go_upto_region 77 with ((first | ((with_reducible refine at_load ?_); first | refine X1 hst ?_ | refine XW hst ?_) | ((with_reducible refine at_store ?_); (first | refine Y1 hst ?_ | refine YW hst ?_); clear hst; intro w hst)))
    refine wp_plan (fun w => St w0.heap.size ⟨[], []⟩ w0 w []) [0, 1, 2, 3, 4, 5, 6, 7, 8, 9, 10, 11, 12, 14, 16, 18, 20] (.q 0 (.q 1 (.q 2 (.q 3 (.q 4 (.q 5 (.q 6 (.q 7 (.q 8 (.q 9 (.q 10 (.q 11 (.q 12 (.q 14 (.e 13 true (.e 15 true (.q 16 (.e 17 true (.q 18 (.e 19 true (.q 20 (.e 21 false (.fin))))))))))))))))))))))) mixed (by kernel_rfl) (by kernel_rfl) (by kernel_rfl) (fun d v c a w h => by cases d <;> exact h) (hst.drew.sub (List.nil_sublist _)) ?_
    replace hst := hst.drew
    repeat ((refine AQ ?_); first | (first | (refine p_ldc1 (q := ⟨tk, 0, none⟩) (fun w hS => (HB.out.2.2.1.1.below hS.kp.below).cell (off := 0) rfl) rfl rfl rfl (one_of (by decide +kernel)) ?_; go_frame) | (refine p_ldc1 (q := ⟨tk, 3, none⟩) (fun w hS => (HB.out.2.2.1.1.below hS.kp.below).cell (off := 3) rfl) rfl rfl rfl (one_of (by decide +kernel)) ?_; go_frame) | (refine p_ldc1 (q := ⟨tk, 4, none⟩) (fun w hS => (HB.out.2.2.1.1.below hS.kp.below).cell (off := 4) rfl) rfl rfl rfl (one_of (by decide +kernel)) ?_; go_frame)) | (refine QV ?_; go_frame))
    refine at_e (by simp only [List.getElem?_toArray, List.getElem?_cons_succ, List.getElem?_cons_zero]; rfl) rfl ?_
    refine e_call (by go_simp <;> first | rfl | exact ⟨rfl, rfl⟩) (placeA_any c tk pb _ _ (HB.out.2.2.1.below hst.kp.below)) ?_
    rintro e w4 ⟨rfl, hb⟩
    replace hst := hst.below hb
    refine ⟨_, rfl, fun _ => hst.sub (List.nil_sublist _), ?_⟩
    go_frame
    (refine at_e (by simp only [List.getElem?_toArray, List.getElem?_cons_succ, List.getElem?_cons_zero]; rfl) rfl ?_; refine E1 hst ?_; clear hst; intro w hst; refine ⟨fun _ => hst.sub (List.nil_sublist _), ?_⟩; go_frame)
    repeat ((refine AQ ?_); (refine QV ?_; go_frame))
    (refine at_e (by simp only [List.getElem?_toArray, List.getElem?_cons_succ, List.getElem?_cons_zero]; rfl) rfl ?_; refine E1 hst ?_; clear hst; intro w hst; refine ⟨fun _ => hst.sub (List.nil_sublist _), ?_⟩; go_frame)
    repeat ((refine AQ ?_); (refine QV ?_; go_frame))
    (refine at_e (by simp only [List.getElem?_toArray, List.getElem?_cons_succ, List.getElem?_cons_zero]; rfl) rfl ?_; refine E1 hst ?_; clear hst; intro w hst; refine ⟨fun _ => hst.sub (List.nil_sublist _), ?_⟩; go_frame)
    repeat ((refine AQ ?_); (refine QV ?_; go_frame))
    refine at_e (by simp only [List.getElem?_toArray, List.getElem?_cons_succ, List.getElem?_cons_zero]; rfl) rfl ?_
    refine p_part hst (off := 9) (vs := [.int .i64 1, .int .i64 (co + c), .int .i64 of, .int .i64 0, .int .i64 0]) (by exact rfl) (by exact rfl) (by exact rfl) (.tail (.head (l' := [.int .i64 17, .int .i64 ty, .string a.text, .string te, .string te, .string ByteArray.empty, .bool false, .bool false, .bool false, .int .i64 1, .int .i64 (co + c), .int .i64 of, .int .i64 0, .int .i64 0, .slice none 0 0, .slice none 0 0, .slice none 0 0, .slice none 0 0, .slice none 0 0]))) rfl (by exact szn_of rfl rfl) (Nat.le_of_ble_eq_true rfl) rfl ?_
    clear hst
    intro w hst
    refine ⟨fun h => by first | exact absurd h (by decide) | exact hst.sub (List.nil_sublist _), ?_⟩
    go_frame
    unfold wpP
    go_wp2_with ((first | ((with_reducible refine at_load ?_); first | refine X1 hst ?_ | refine XW hst ?_) | ((with_reducible refine at_store ?_); (first | refine Y1 hst ?_ | refine YW hst ?_); clear hst; intro w hst)))
    refine ret_ct hst rfl rfl (by (repeat' (first | exact List.Mem.head _ | apply List.Mem.tail)); done) (by exact agg_of rfl rfl) rfl rfl ?_
    exact ⟨a.text, some ⟨g, 0, none⟩, cap, lo, hi, [c0], rfl, fun _ => HB.out.2.2.2.1.1.1.symm, HG.out.le, .inr ⟨g, sp, rfl, by simp only [ifs, nodeV]; rw [HB.out.2.2.2.2.2.2]; exact hst.blk (b := g) (by (repeat' (first | exact List.Mem.head _ | apply List.Mem.tail)); done)⟩, HB.out.2.2.2.1.2.below hst.kp.below, hst.kp.below⟩
end Go.Proofs.YtpajcfkldnbpfaaGreatDoor
