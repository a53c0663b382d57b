/- alone: anchors. alone: lists, pairs. -/
import Derived.Test.YtpajcfkldnbpfaaGreatDoorV19
set_option linter.unusedSimpArgs false
set_option linter.unusedVariables false
namespace Go.Proofs.YtpajcfkldnbpfaaGreatDoor
open Go.RowKit
set_option maxRecDepth 100000 in
set_option maxHeartbeats 4000000 in
theorem alone_16 (c : Int) (h : NH) (a a2 : NH) (ka ka2 : F NH) (c0 c1 ba0 tk0 pb0 lo hi : Nat) (v0 : Value) (b ba tk pb : Nat) (w0 : World) (hk : h.kind = 16) (hblk : Blk w0 b 152 [ptr ba, ptr tk, .iface 125 (ptr c0), nodeV a2 c1]) (hba : Blk w0 ba 235 [.string ByteArray.empty, .pointer none, .int .i64 0]) (ht : TokAt w0 c h tk pb) (hv : ((h.value = a.text ∧ h.flow = false) ∧ AstN w0 c lo hi (.cons a ka (.cons a2 ka2 .nil)) [c0, c1]) ∧ Blk w0 c0 127 [ptr ba0, ptr tk0, v0] ∧ TokAt w0 c a tk0 pb0 ∧ a.kind = 8) : Calls Tryz.prog 19 #[.iface 150 (ptr b)] w0 (AloneR c h (.cons a ka (.cons a2 ka2 .nil)) w0) := by
  have HB := Lib.hid (And.intro hblk (And.intro hba (And.intro ht hv)))
  clear hblk hba ht hv
  obtain ⟨kd, ty, va, te, fl, co, of⟩ := h
  simp only at hk
  subst hk
  obtain rfl : fl = false := HB.out.2.2.2.1.1.2
  unfold nodeV at HB
  ((have ta101 := fun v xT w => ta_miss (t := 150) 101 (by decide) (by decide) v xT w; have ta106 := fun v xT w => ta_miss (t := 150) 106 (by decide) (by decide) v xT w; have ta109 := fun v xT w => ta_miss (t := 150) 109 (by decide) (by decide) v xT w; have ta113 := fun v xT w => ta_miss (t := 150) 113 (by decide) (by decide) v xT w; have ta117 := fun v xT w => ta_miss (t := 150) 117 (by decide) (by decide) v xT w; have ta120 := fun v xT w => ta_miss (t := 150) 120 (by decide) (by decide) v xT w; have ta123 := fun v xT w => ta_miss (t := 150) 123 (by decide) (by decide) v xT w; have ta125 := fun v xT w => ta_miss (t := 150) 125 (by decide) (by decide) v xT w; have ta128 := fun v xT w => ta_miss (t := 150) 128 (by decide) (by decide) v xT w; have ta130 := fun v xT w => ta_miss (t := 150) 130 (by decide) (by decide) v xT w; have ta133 := fun v xT w => ta_miss (t := 150) 133 (by decide) (by decide) v xT w; have ta138 := fun v xT w => ta_miss (t := 150) 138 (by decide) (by decide) v xT w; have ta137 := fun v xT w => ta_miss (t := 150) 137 (by decide) (by decide) v xT w; have ta145 := fun v xT w => ta_miss (t := 150) 145 (by decide) (by decide) v xT w; have ta150 := fun v xT w => ta_hit 150 (by decide) v xT w); have hst := St.nil w0.heap.size ⟨[], []⟩ w0 (Nat.le_refl _); go_enter Tryz.func19, Tryz.ntmps19; go_wp2_with ((first | ((with_reducible refine at_load ?_); first | refine X1 hst ?_ | refine XW hst ?_) | ((with_reducible refine at_store ?_); (first | refine Y1 hst ?_ | refine YW hst ?_); clear hst; intro w hst) | ((first | ((with_reducible refine at_alloc ?_); refine ZP hst ?_) | ((with_reducible refine at_box ?_); refine ZP hst ?_) | ((with_reducible refine at_bslice ?_); refine ZS hst ?_)); clear hst; (first | ((fail_if_success have := b0); intro b0 w hb0 hst) | ((fail_if_success have := b1); intro b1 w hb1 hst) | ((fail_if_success have := b2); intro b2 w hb2 hst) | (intro b3 w hb3 hst))))); refine (type16 _ _).mono ?_; rintro e w1 ⟨rfl, rfl⟩; have hc0 := (HB.out.1.below hst.kp.below).cell (off := 0) rfl; have hp1 := prom_path (t := 150) (S := 152) (by decide) hc0; have hp2 := prom_comment (t := 150) (S := 152) (by decide) hc0; go_wp2_with ((first | ((with_reducible refine at_load ?_); first | refine X1 hst ?_ | refine XW hst ?_) | ((with_reducible refine at_store ?_); (first | refine Y1 hst ?_ | refine YW hst ?_); clear hst; intro w hst) | ((first | ((with_reducible refine at_alloc ?_); refine ZP hst ?_) | ((with_reducible refine at_box ?_); refine ZP hst ?_) | ((with_reducible refine at_bslice ?_); refine ZS hst ?_)); clear hst; (first | ((fail_if_success have := b0); intro b0 w hb0 hst) | ((fail_if_success have := b1); intro b1 w hb1 hst) | ((fail_if_success have := b2); intro b2 w hb2 hst) | (intro b3 w hb3 hst))))); (refine (getPath_any ba _ (HB.out.2.1.below hst.kp.below)).mono ?_; rintro e w1 ⟨rfl, rfl⟩); go_wp2_with ((first | ((with_reducible refine at_load ?_); first | refine X1 hst ?_ | refine XW hst ?_) | ((with_reducible refine at_store ?_); (first | refine Y1 hst ?_ | refine YW hst ?_); clear hst; intro w hst) | ((first | ((with_reducible refine at_alloc ?_); refine ZP hst ?_) | ((with_reducible refine at_box ?_); refine ZP hst ?_) | ((with_reducible refine at_bslice ?_); refine ZS hst ?_)); clear hst; (first | ((fail_if_success have := b0); intro b0 w hb0 hst) | ((fail_if_success have := b1); intro b1 w hb1 hst) | ((fail_if_success have := b2); intro b2 w hb2 hst) | (intro b3 w hb3 hst))))); (refine (getComment_any ba _ (HB.out.2.1.below hst.kp.below)).mono ?_; rintro e w1 ⟨rfl, rfl⟩); go_wp2_with ((first | ((with_reducible refine at_load ?_); first | refine X1 hst ?_ | refine XW hst ?_) | ((with_reducible refine at_store ?_); (first | refine Y1 hst ?_ | refine YW hst ?_); clear hst; intro w hst) | ((first | ((with_reducible refine at_alloc ?_); refine ZP hst ?_) | ((with_reducible refine at_box ?_); refine ZP hst ?_) | ((with_reducible refine at_bslice ?_); refine ZS hst ?_)); clear hst; (first | ((fail_if_success have := b0); intro b0 w hb0 hst) | ((fail_if_success have := b1); intro b1 w hb1 hst) | ((fail_if_success have := b2); intro b2 w hb2 hst) | (intro b3 w hb3 hst))))); (refine (told_nil _).mono ?_; rintro e w1 ⟨rfl, rfl⟩); clear hc0 hp1 hp2)
  go_upto_region 58 with ((first | ((with_reducible refine at_load ?_); first | refine X1 hst ?_ | refine XW hst ?_) | ((with_reducible refine at_store ?_); (first | refine Y1 hst ?_ | refine YW hst ?_); clear hst; intro w hst) | ((first | ((with_reducible refine at_alloc ?_); refine ZP hst ?_) | ((with_reducible refine at_box ?_); refine ZP hst ?_) | ((with_reducible refine at_bslice ?_); refine ZS hst ?_)); clear hst; (first | ((fail_if_success have := b0); intro b0 w hb0 hst) | ((fail_if_success have := b1); intro b1 w hb1 hst) | ((fail_if_success have := b2); intro b2 w hb2 hst) | (intro b3 w hb3 hst)))))
  refine wp_plan (fun w => St w0.heap.size ⟨[], []⟩ w0 w []) [0, 1, 2, 3, 4, 5, 6, 7, 9, 10, 11, 12, 13, 14, 15, 16, 19, 20, 22] (.q 0 (.q 1 (.q 2 (.q 3 (.q 4 (.q 5 (.q 6 (.q 7 (.q 9 (.q 10 (.q 11 (.q 12 (.q 13 (.q 14 (.q 15 (.q 16 (.e2 8 true (.e 17 true (.e 18 true (.q 19 (.q 20 (.e 21 true (.q 22 (.fin))))))) 17 true (.e 8 true (.e 18 true (.q 19 (.q 20 (.e 21 true (.q 22 (.fin)))))))))))))))))))))))) mixed (by kernel_rfl) (by kernel_rfl) (by kernel_rfl) (fun d v c a w h => by cases d <;> exact h) (hst.drew.sub (List.nil_sublist _)) ?_
  replace hst := hst.drew
  repeat ((refine AQ ?_); first | (refine p_ldc1 (q := ⟨b, 1, none⟩) (fun w hS => (HB.out.1.below hS.kp.below).cell (off := 1) rfl) rfl rfl rfl (one_of (by decide +kernel)) ?_; go_frame) | (refine p_ldc1 (q := ⟨b, 2, none⟩) (fun w hS => (HB.out.1.below hS.kp.below).cell (off := 2) rfl) rfl rfl rfl (one_of (by decide +kernel)) ?_; go_frame) | (refine p_ldc1 (q := ⟨b, 3, none⟩) (fun w hS => (HB.out.1.below hS.kp.below).cell (off := 3) rfl) rfl rfl rfl (one_of (by decide +kernel)) ?_; go_frame) | (refine QV ?_; go_frame))
  refine at_e2 (by simp only [List.getElem?_toArray, List.getElem?_cons_succ, List.getElem?_cons_zero]; rfl) rfl (by simp only [List.getElem?_toArray, List.getElem?_cons_succ, List.getElem?_cons_zero]; rfl) rfl ?_ ?_
  · refine e_call (by go_simp <;> first | rfl | exact ⟨rfl, rfl⟩) (name_any c c0 ba0 tk0 pb0 v0 a _ (HB.out.2.2.2.2.1.below hst.kp.below) (HB.out.2.2.2.2.2.1.below hst.kp.below)) ?_
    rintro e w4 ⟨rfl, rfl⟩
    refine ⟨_, rfl, fun _ => hst.sub (List.nil_sublist _), ?_⟩
    go_frame
    refine at_e (by simp only [List.getElem?_toArray, List.getElem?_cons_succ, List.getElem?_cons_zero]; rfl) rfl ?_
    refine p_newS hst (by go_simp; first | rfl | exact ⟨⟨rfl, rfl⟩, rfl⟩) ?_
    clear hst
    intro b2 w hb2 hst
    refine ⟨fun _ => hst.sub (List.nil_sublist _), ?_⟩
    go_frame
    refine at_e (by simp only [List.getElem?_toArray, List.getElem?_cons_succ, List.getElem?_cons_zero]; rfl) rfl ?_
    refine e_call (by go_simp <;> first | rfl | exact ⟨rfl, rfl⟩) (some_any b2 2 [.iface 125 (ptr c0), .iface (tyOf a2.kind) (ptr c1)] [] _ (hst.blk (b := b2) (by (repeat' (first | exact List.Mem.head _ | apply List.Mem.tail)); done)) (by intro v hv; simp only [List.mem_cons, List.not_mem_nil, or_false] at hv; rcases hv with rfl | rfl <;> exact ⟨_, _, rfl⟩) (Nat.le_of_ble_eq_true rfl)) ?_
    rintro e w4 ⟨oid, cap, sp, rfl, hgr, hsm⟩
    obtain ⟨g, rfl⟩ : ∃ g, oid = some g := by
      cases oid with
      | none => have := hgr.nil rfl; have := hgr.len; have := hgr.le; simp at *; omega
      | some g => exact ⟨g, rfl⟩
    have hlg := hsm.row_lo (b := g) (by (repeat' (first | exact List.Mem.head _ | apply List.Mem.tail)); done)
    have hz4 := hst.kp.size
    replace hst := ((hst.below hsm.kp.below).sub (.cons _ (List.Sublist.refl _))).addAt (b := g) (by omega) (hsm.blk (b := g) (by (repeat' (first | exact List.Mem.head _ | apply List.Mem.tail)); done)) rfl
    have HG := Lib.hid hgr
    clear hgr hsm
    refine ⟨_, rfl, fun _ => hst.sub (List.nil_sublist _), ?_⟩
    go_frame
    repeat ((refine AQ ?_); (refine QV ?_; go_frame))
    (refine at_e (by simp only [List.getElem?_toArray, List.getElem?_cons_succ, List.getElem?_cons_zero]; rfl) rfl ?_; refine E1 hst ?_; clear hst; intro w hst; refine ⟨fun _ => hst.sub (List.nil_sublist _), ?_⟩; go_frame)
    repeat ((refine AQ ?_); (refine QV ?_; go_frame))
    unfold wpP
    go_upto_region 77 with ((first | ((with_reducible refine at_load ?_); first | refine X1 hst ?_ | refine XW hst ?_) | ((with_reducible refine at_store ?_); (first | refine Y1 hst ?_ | refine YW hst ?_); clear hst; intro w hst)))
    refine wp_plan (fun w => St w0.heap.size ⟨[], []⟩ w0 w []) [0, 1, 2, 3, 4, 5, 6, 7, 8, 9, 10, 11, 12, 14, 16, 18, 20] (.q 0 (.q 1 (.q 2 (.q 3 (.q 4 (.q 5 (.q 6 (.q 7 (.q 8 (.q 9 (.q 10 (.q 11 (.q 12 (.q 14 (.e 13 true (.e 15 true (.q 16 (.e 17 true (.q 18 (.e 19 true (.q 20 (.e 21 false (.fin))))))))))))))))))))))) mixed (by kernel_rfl) (by kernel_rfl) (by kernel_rfl) (fun d v c a w h => by cases d <;> exact h) (hst.drew.sub (List.nil_sublist _)) ?_
    replace hst := hst.drew
    repeat ((refine AQ ?_); first | (first | (refine p_ldc1 (q := ⟨tk, 0, none⟩) (fun w hS => (HB.out.2.2.1.1.below hS.kp.below).cell (off := 0) rfl) rfl rfl rfl (one_of (by decide +kernel)) ?_; go_frame) | (refine p_ldc1 (q := ⟨tk, 3, none⟩) (fun w hS => (HB.out.2.2.1.1.below hS.kp.below).cell (off := 3) rfl) rfl rfl rfl (one_of (by decide +kernel)) ?_; go_frame) | (refine p_ldc1 (q := ⟨tk, 4, none⟩) (fun w hS => (HB.out.2.2.1.1.below hS.kp.below).cell (off := 4) rfl) rfl rfl rfl (one_of (by decide +kernel)) ?_; go_frame)) | (refine QV ?_; go_frame))
    refine at_e (by simp only [List.getElem?_toArray, List.getElem?_cons_succ, List.getElem?_cons_zero]; rfl) rfl ?_
    refine e_call (by go_simp <;> first | rfl | exact ⟨rfl, rfl⟩) (placeA_any c tk pb _ _ (HB.out.2.2.1.below hst.kp.below)) ?_
    rintro e w4 ⟨rfl, hb⟩
    replace hst := hst.below hb
    refine ⟨_, rfl, fun _ => hst.sub (List.nil_sublist _), ?_⟩
    go_frame
    (refine at_e (by simp only [List.getElem?_toArray, List.getElem?_cons_succ, List.getElem?_cons_zero]; rfl) rfl ?_; refine E1 hst ?_; clear hst; intro w hst; refine ⟨fun _ => hst.sub (List.nil_sublist _), ?_⟩; go_frame)
    repeat ((refine AQ ?_); (refine QV ?_; go_frame))
    (refine at_e (by simp only [List.getElem?_toArray, List.getElem?_cons_succ, List.getElem?_cons_zero]; rfl) rfl ?_; refine E1 hst ?_; clear hst; intro w hst; refine ⟨fun _ => hst.sub (List.nil_sublist _), ?_⟩; go_frame)
    repeat ((refine AQ ?_); (refine QV ?_; go_frame))
    (refine at_e (by simp only [List.getElem?_toArray, List.getElem?_cons_succ, List.getElem?_cons_zero]; rfl) rfl ?_; refine E1 hst ?_; clear hst; intro w hst; refine ⟨fun _ => hst.sub (List.nil_sublist _), ?_⟩; go_frame)
    repeat ((refine AQ ?_); (refine QV ?_; go_frame))
    refine at_e (by simp only [List.getElem?_toArray, List.getElem?_cons_succ, List.getElem?_cons_zero]; rfl) rfl ?_
    refine p_part hst (off := 9) (vs := [.int .i64 1, .int .i64 (co + c), .int .i64 of, .int .i64 0, .int .i64 0]) (by exact rfl) (by exact rfl) (by exact rfl) (.tail (.head (l' := [.int .i64 16, .int .i64 ty, .string a.text, .string te, .string te, .string ByteArray.empty, .bool false, .bool false, .bool false, .int .i64 1, .int .i64 (co + c), .int .i64 of, .int .i64 0, .int .i64 0, .slice none 0 0, .slice none 0 0, .slice none 0 0, .slice none 0 0, .slice none 0 0]))) rfl (by exact szn_of rfl rfl) (Nat.le_of_ble_eq_true rfl) rfl ?_
    clear hst
    intro w hst
    refine ⟨fun h => by first | exact absurd h (by decide) | exact hst.sub (List.nil_sublist _), ?_⟩
    go_frame
    unfold wpP
    go_wp2_with ((first | ((with_reducible refine at_load ?_); first | refine X1 hst ?_ | refine XW hst ?_) | ((with_reducible refine at_store ?_); (first | refine Y1 hst ?_ | refine YW hst ?_); clear hst; intro w hst)))
    refine ret_ct hst rfl rfl (by (repeat' (first | exact List.Mem.head _ | apply List.Mem.tail)); done) (by exact agg_of rfl rfl) rfl rfl ?_
    exact ⟨a.text, some ⟨g, 0, none⟩, cap, lo, hi, [c0, c1], rfl, fun _ => HB.out.2.2.2.1.1.1.symm, HG.out.le, .inr ⟨g, sp, rfl, by simp only [ifs, nodeV]; rw [HB.out.2.2.2.2.2.2]; exact hst.blk (b := g) (by (repeat' (first | exact List.Mem.head _ | apply List.Mem.tail)); done)⟩, HB.out.2.2.2.1.2.below hst.kp.below, hst.kp.below⟩
  · refine p_newS hst (by go_simp; first | rfl | exact ⟨⟨rfl, rfl⟩, rfl⟩) ?_
    clear hst
    intro b2 w hb2 hst
    refine ⟨fun _ => hst.sub (List.nil_sublist _), ?_⟩
    go_frame
    refine at_e (by simp only [List.getElem?_toArray, List.getElem?_cons_succ, List.getElem?_cons_zero]; rfl) rfl ?_
    refine e_call (by go_simp <;> first | rfl | exact ⟨rfl, rfl⟩) (name_any c c0 ba0 tk0 pb0 v0 a _ (HB.out.2.2.2.2.1.below hst.kp.below) (HB.out.2.2.2.2.2.1.below hst.kp.below)) ?_
    rintro e w4 ⟨rfl, rfl⟩
    refine ⟨_, rfl, fun _ => hst.sub (List.nil_sublist _), ?_⟩
    go_frame
    refine at_e (by simp only [List.getElem?_toArray, List.getElem?_cons_succ, List.getElem?_cons_zero]; rfl) rfl ?_
    refine e_call (by go_simp <;> first | rfl | exact ⟨rfl, rfl⟩) (some_any b2 2 [.iface 125 (ptr c0), .iface (tyOf a2.kind) (ptr c1)] [] _ (hst.blk (b := b2) (by (repeat' (first | exact List.Mem.head _ | apply List.Mem.tail)); done)) (by intro v hv; simp only [List.mem_cons, List.not_mem_nil, or_false] at hv; rcases hv with rfl | rfl <;> exact ⟨_, _, rfl⟩) (Nat.le_of_ble_eq_true rfl)) ?_
    rintro e w4 ⟨oid, cap, sp, rfl, hgr, hsm⟩
    obtain ⟨g, rfl⟩ : ∃ g, oid = some g := by
      cases oid with
      | none => have := hgr.nil rfl; have := hgr.len; have := hgr.le; simp at *; omega
      | some g => exact ⟨g, rfl⟩
    have hlg := hsm.row_lo (b := g) (by (repeat' (first | exact List.Mem.head _ | apply List.Mem.tail)); done)
    have hz4 := hst.kp.size
    replace hst := ((hst.below hsm.kp.below).sub (.cons _ (List.Sublist.refl _))).addAt (b := g) (by omega) (hsm.blk (b := g) (by (repeat' (first | exact List.Mem.head _ | apply List.Mem.tail)); done)) rfl
    have HG := Lib.hid hgr
    clear hgr hsm
    refine ⟨_, rfl, fun _ => hst.sub (List.nil_sublist _), ?_⟩
    go_frame
    repeat ((refine AQ ?_); (refine QV ?_; go_frame))
    (refine at_e (by simp only [List.getElem?_toArray, List.getElem?_cons_succ, List.getElem?_cons_zero]; rfl) rfl ?_; refine E1 hst ?_; clear hst; intro w hst; refine ⟨fun _ => hst.sub (List.nil_sublist _), ?_⟩; go_frame)
    repeat ((refine AQ ?_); (refine QV ?_; go_frame))
    unfold wpP
    go_upto_region 77 with ((first | ((with_reducible refine at_load ?_); first | refine X1 hst ?_ | refine XW hst ?_) | ((with_reducible refine at_store ?_); (first | refine Y1 hst ?_ | refine YW hst ?_); clear hst; intro w hst)))
    refine wp_plan (fun w => St w0.heap.size ⟨[], []⟩ w0 w []) [0, 1, 2, 3, 4, 5, 6, 7, 8, 9, 10, 11, 12, 14, 16, 18, 20] (.q 0 (.q 1 (.q 2 (.q 3 (.q 4 (.q 5 (.q 6 (.q 7 (.q 8 (.q 9 (.q 10 (.q 11 (.q 12 (.q 14 (.e 13 true (.e 15 true (.q 16 (.e 17 true (.q 18 (.e 19 true (.q 20 (.e 21 false (.fin))))))))))))))))))))))) mixed (by kernel_rfl) (by kernel_rfl) (by kernel_rfl) (fun d v c a w h => by cases d <;> exact h) (hst.drew.sub (List.nil_sublist _)) ?_
    replace hst := hst.drew
    repeat ((refine AQ ?_); first | (first | (refine p_ldc1 (q := ⟨tk, 0, none⟩) (fun w hS => (HB.out.2.2.1.1.below hS.kp.below).cell (off := 0) rfl) rfl rfl rfl (one_of (by decide +kernel)) ?_; go_frame) | (refine p_ldc1 (q := ⟨tk, 3, none⟩) (fun w hS => (HB.out.2.2.1.1.below hS.kp.below).cell (off := 3) rfl) rfl rfl rfl (one_of (by decide +kernel)) ?_; go_frame) | (refine p_ldc1 (q := ⟨tk, 4, none⟩) (fun w hS => (HB.out.2.2.1.1.below hS.kp.below).cell (off := 4) rfl) rfl rfl rfl (one_of (by decide +kernel)) ?_; go_frame)) | (refine QV ?_; go_frame))
    refine at_e (by simp only [List.getElem?_toArray, List.getElem?_cons_succ, List.getElem?_cons_zero]; rfl) rfl ?_
    refine e_call (by go_simp <;> first | rfl | exact ⟨rfl, rfl⟩) (placeA_any c tk pb _ _ (HB.out.2.2.1.below hst.kp.below)) ?_
    rintro e w4 ⟨rfl, hb⟩
    replace hst := hst.below hb
    refine ⟨_, rfl, fun _ => hst.sub (List.nil_sublist _), ?_⟩
    go_frame
    (refine at_e (by simp only [List.getElem?_toArray, List.getElem?_cons_succ, List.getElem?_cons_zero]; rfl) rfl ?_; refine E1 hst ?_; clear hst; intro w hst; refine ⟨fun _ => hst.sub (List.nil_sublist _), ?_⟩; go_frame)
    repeat ((refine AQ ?_); (refine QV ?_; go_frame))
    (refine at_e (by simp only [List.getElem?_toArray, List.getElem?_cons_succ, List.getElem?_cons_zero]; rfl) rfl ?_; refine E1 hst ?_; clear hst; intro w hst; refine ⟨fun _ => hst.sub (List.nil_sublist _), ?_⟩; go_frame)
    repeat ((refine AQ ?_); (refine QV ?_; go_frame))
    (refine at_e (by simp only [List.getElem?_toArray, List.getElem?_cons_succ, List.getElem?_cons_zero]; rfl) rfl ?_; refine E1 hst ?_; clear hst; intro w hst; refine ⟨fun _ => hst.sub (List.nil_sublist _), ?_⟩; go_frame)
    repeat ((refine AQ ?_); (refine QV ?_; go_frame))
    refine at_e (by simp only [List.getElem?_toArray, List.getElem?_cons_succ, List.getElem?_cons_zero]; rfl) rfl ?_
    refine p_part hst (off := 9) (vs := [.int .i64 1, .int .i64 (co + c), .int .i64 of, .int .i64 0, .int .i64 0]) (by exact rfl) (by exact rfl) (by exact rfl) (.tail (.head (l' := [.int .i64 16, .int .i64 ty, .string a.text, .string te, .string te, .string ByteArray.empty, .bool false, .bool false, .bool false, .int .i64 1, .int .i64 (co + c), .int .i64 of, .int .i64 0, .int .i64 0, .slice none 0 0, .slice none 0 0, .slice none 0 0, .slice none 0 0, .slice none 0 0]))) rfl (by exact szn_of rfl rfl) (Nat.le_of_ble_eq_true rfl) rfl ?_
    clear hst
    intro w hst
    refine ⟨fun h => by first | exact absurd h (by decide) | exact hst.sub (List.nil_sublist _), ?_⟩
    go_frame
    unfold wpP
    go_wp2_with ((first | ((with_reducible refine at_load ?_); first | refine X1 hst ?_ | refine XW hst ?_) | ((with_reducible refine at_store ?_); (first | refine Y1 hst ?_ | refine YW hst ?_); clear hst; intro w hst)))
    refine ret_ct hst rfl rfl (by (repeat' (first | exact List.Mem.head _ | apply List.Mem.tail)); done) (by exact agg_of rfl rfl) rfl rfl ?_
    exact ⟨a.text, some ⟨g, 0, none⟩, cap, lo, hi, [c0, c1], rfl, fun _ => HB.out.2.2.2.1.1.1.symm, HG.out.le, .inr ⟨g, sp, rfl, by simp only [ifs, nodeV]; rw [HB.out.2.2.2.2.2.2]; exact hst.blk (b := g) (by (repeat' (first | exact List.Mem.head _ | apply List.Mem.tail)); done)⟩, HB.out.2.2.2.1.2.below hst.kp.below, hst.kp.below⟩
end Go.Proofs.YtpajcfkldnbpfaaGreatDoor
namespace Go.Proofs.YtpajcfkldnbpfaaGreatDoor
open Go.RowKit
theorem SlV.below {w w' : World} {t : Nat} {p : Option Addr} {vs : List Value} (h : SlV w t p vs) (hb : Below w.heap.size w w') : SlV w' t p vs := by
  rcases h with h | ⟨b, sp, h1, h2⟩
  · exact .inl h
  · exact .inr ⟨b, sp, h1, h2.below hb⟩
set_option maxRecDepth 100000 in
set_option maxHeartbeats 4000000 in
theorem alone_14 (c : Int) (h : NH) (k : F NH) (kb : List Nat) (lo hi cc ccc : Nat) (p pc : Option Addr) (b ba tk pb : Nat) (w0 : World) (hk : h.kind = 14) (hblk : Blk w0 b 149 [ptr ba, ptr tk, .pointer none, .bool h.flow, .slice p k.len cc, .slice pc k.len ccc, .slice none 0 0, .pointer none]) (hba : Blk w0 ba 235 [.string ByteArray.empty, .pointer none, .int .i64 0]) (ht : TokAt w0 c h tk pb) (hv : h.value = ByteArray.empty ∧ SlV w0 55 p (ifs k kb) ∧ AstN w0 c lo hi k kb ∧ k.len ≤ cc) : Calls Tryz.prog 19 #[.iface 145 (ptr b)] w0 (AloneR c h k w0) := by
  have HB := Lib.hid (And.intro hblk (And.intro hba (And.intro ht hv)))
  clear hblk hba ht hv
  obtain ⟨kd, ty, va, te, fl, co, of⟩ := h
  simp only at hk
  subst hk
  obtain rfl : va = ByteArray.empty := HB.out.2.2.2.1
  ((have ta101 := fun v xT w => ta_miss (t := 145) 101 (by decide) (by decide) v xT w; have ta106 := fun v xT w => ta_miss (t := 145) 106 (by decide) (by decide) v xT w; have ta109 := fun v xT w => ta_miss (t := 145) 109 (by decide) (by decide) v xT w; have ta113 := fun v xT w => ta_miss (t := 145) 113 (by decide) (by decide) v xT w; have ta117 := fun v xT w => ta_miss (t := 145) 117 (by decide) (by decide) v xT w; have ta120 := fun v xT w => ta_miss (t := 145) 120 (by decide) (by decide) v xT w; have ta123 := fun v xT w => ta_miss (t := 145) 123 (by decide) (by decide) v xT w; have ta125 := fun v xT w => ta_miss (t := 145) 125 (by decide) (by decide) v xT w; have ta128 := fun v xT w => ta_miss (t := 145) 128 (by decide) (by decide) v xT w; have ta130 := fun v xT w => ta_miss (t := 145) 130 (by decide) (by decide) v xT w; have ta133 := fun v xT w => ta_miss (t := 145) 133 (by decide) (by decide) v xT w; have ta138 := fun v xT w => ta_miss (t := 145) 138 (by decide) (by decide) v xT w; have ta137 := fun v xT w => ta_miss (t := 145) 137 (by decide) (by decide) v xT w; have ta145 := fun v xT w => ta_hit 145 (by decide) v xT w); have hst := St.nil w0.heap.size ⟨[], []⟩ w0 (Nat.le_refl _); go_enter Tryz.func19, Tryz.ntmps19; go_wp2_with ((first | ((with_reducible refine at_load ?_); first | refine X1 hst ?_ | refine XW hst ?_) | ((with_reducible refine at_store ?_); (first | refine Y1 hst ?_ | refine YW hst ?_); clear hst; intro w hst) | ((first | ((with_reducible refine at_alloc ?_); refine ZP hst ?_) | ((with_reducible refine at_box ?_); refine ZP hst ?_) | ((with_reducible refine at_bslice ?_); refine ZS hst ?_)); clear hst; (intro b0 w hb0 hst)))); refine (type14 _ _).mono ?_; rintro e w1 ⟨rfl, rfl⟩; have hc0 := (HB.out.1.below hst.kp.below).cell (off := 0) rfl; have hp1 := prom_path (t := 145) (S := 149) (by decide) hc0; have hp2 := prom_comment (t := 145) (S := 149) (by decide) hc0; go_wp2_with ((first | ((with_reducible refine at_load ?_); first | refine X1 hst ?_ | refine XW hst ?_) | ((with_reducible refine at_store ?_); (first | refine Y1 hst ?_ | refine YW hst ?_); clear hst; intro w hst) | ((first | ((with_reducible refine at_alloc ?_); refine ZP hst ?_) | ((with_reducible refine at_box ?_); refine ZP hst ?_) | ((with_reducible refine at_bslice ?_); refine ZS hst ?_)); clear hst; (intro b0 w hb0 hst)))); (refine (getPath_any ba _ (HB.out.2.1.below hst.kp.below)).mono ?_; rintro e w1 ⟨rfl, rfl⟩); go_wp2_with ((first | ((with_reducible refine at_load ?_); first | refine X1 hst ?_ | refine XW hst ?_) | ((with_reducible refine at_store ?_); (first | refine Y1 hst ?_ | refine YW hst ?_); clear hst; intro w hst) | ((first | ((with_reducible refine at_alloc ?_); refine ZP hst ?_) | ((with_reducible refine at_box ?_); refine ZP hst ?_) | ((with_reducible refine at_bslice ?_); refine ZS hst ?_)); clear hst; (intro b0 w hb0 hst)))); (refine (getComment_any ba _ (HB.out.2.1.below hst.kp.below)).mono ?_; rintro e w1 ⟨rfl, rfl⟩); go_wp2_with ((first | ((with_reducible refine at_load ?_); first | refine X1 hst ?_ | refine XW hst ?_) | ((with_reducible refine at_store ?_); (first | refine Y1 hst ?_ | refine YW hst ?_); clear hst; intro w hst) | ((first | ((with_reducible refine at_alloc ?_); refine ZP hst ?_) | ((with_reducible refine at_box ?_); refine ZP hst ?_) | ((with_reducible refine at_bslice ?_); refine ZS hst ?_)); clear hst; (intro b0 w hb0 hst)))); (refine (told_nil _).mono ?_; rintro e w1 ⟨rfl, rfl⟩); clear hc0 hp1 hp2)
  go_upto_region 55 with ((first | ((with_reducible refine at_load ?_); first | refine X1 hst ?_ | refine XW hst ?_) | ((with_reducible refine at_store ?_); (first | refine Y1 hst ?_ | refine YW hst ?_); clear hst; intro w hst) | ((first | ((with_reducible refine at_alloc ?_); refine ZP hst ?_) | ((with_reducible refine at_box ?_); refine ZP hst ?_) | ((with_reducible refine at_bslice ?_); refine ZS hst ?_)); clear hst; (intro b0 w hb0 hst))))
  refine wp_plan (fun w => St w0.heap.size ⟨[], []⟩ w0 w []) [0, 1, 2, 3, 4, 5, 6, 7, 8, 9, 10, 11, 13, 14, 15, 16, 17, 18, 20, 22] (.q 0 (.q 1 (.q 2 (.q 3 (.q 4 (.q 5 (.q 6 (.q 7 (.q 8 (.q 9 (.q 10 (.q 11 (.q 13 (.q 14 (.q 15 (.q 16 (.e 12 true (.q 17 (.q 18 (.e 19 true (.q 20 (.e 21 true (.q 22 (.fin)))))))))))))))))))))))) mixed (by kernel_rfl) (by kernel_rfl) (by kernel_rfl) (fun d v c a w h => by cases d <;> exact h) (hst.drew.sub (List.nil_sublist _)) ?_
  replace hst := hst.drew
  repeat ((refine AQ ?_); first | (refine p_ldc1 (q := ⟨b, 1, none⟩) (fun w hS => (HB.out.1.below hS.kp.below).cell (off := 1) rfl) rfl rfl rfl (one_of (by decide +kernel)) ?_; go_frame) | (refine p_ldc1 (q := ⟨b, 3, none⟩) (fun w hS => (HB.out.1.below hS.kp.below).cell (off := 3) rfl) rfl rfl rfl (one_of (by decide +kernel)) ?_; go_frame) | (refine p_ldc1 (q := ⟨b, 7, none⟩) (fun w hS => (HB.out.1.below hS.kp.below).cell (off := 7) rfl) rfl rfl rfl (one_of (by decide +kernel)) ?_; go_frame) | (refine p_ldc1 (q := ⟨b, 4, none⟩) (fun w hS => (HB.out.1.below hS.kp.below).cell (off := 4) rfl) rfl rfl rfl (one_of (by decide +kernel)) ?_; go_frame) | (refine QV ?_; go_frame))
  refine at_e (by simp only [List.getElem?_toArray, List.getElem?_cons_succ, List.getElem?_cons_zero]; rfl) rfl ?_
  refine e_call (by go_simp <;> first | rfl | exact ⟨rfl, rfl⟩) (told_nil _) ?_
  rintro e w4 ⟨rfl, rfl⟩
  refine ⟨_, rfl, fun _ => hst.sub (List.nil_sublist _), ?_⟩
  go_frame
  repeat ((refine AQ ?_); (refine QV ?_; go_frame))
  (refine at_e (by simp only [List.getElem?_toArray, List.getElem?_cons_succ, List.getElem?_cons_zero]; rfl) rfl ?_; refine E1 hst ?_; clear hst; intro w hst; refine ⟨fun _ => hst.sub (List.nil_sublist _), ?_⟩; go_frame)
  repeat ((refine AQ ?_); (refine QV ?_; go_frame))
  (refine at_e (by simp only [List.getElem?_toArray, List.getElem?_cons_succ, List.getElem?_cons_zero]; rfl) rfl ?_; refine E1 hst ?_; clear hst; intro w hst; refine ⟨fun _ => hst.sub (List.nil_sublist _), ?_⟩; go_frame)
  repeat ((refine AQ ?_); (refine QV ?_; go_frame))
  unfold wpP
  go_upto_region 77 with ((first | ((with_reducible refine at_load ?_); first | refine X1 hst ?_ | refine XW hst ?_) | ((with_reducible refine at_store ?_); (first | refine Y1 hst ?_ | refine YW hst ?_); clear hst; intro w hst)))
  refine wp_plan (fun w => St w0.heap.size ⟨[], []⟩ w0 w []) [0, 1, 2, 3, 4, 5, 6, 7, 8, 9, 10, 11, 12, 14, 16, 18, 20] (.q 0 (.q 1 (.q 2 (.q 3 (.q 4 (.q 5 (.q 6 (.q 7 (.q 8 (.q 9 (.q 10 (.q 11 (.q 12 (.q 14 (.e 13 true (.e 15 true (.q 16 (.e 17 true (.q 18 (.e 19 true (.q 20 (.e 21 false (.fin))))))))))))))))))))))) mixed (by kernel_rfl) (by kernel_rfl) (by kernel_rfl) (fun d v c a w h => by cases d <;> exact h) (hst.drew.sub (List.nil_sublist _)) ?_
  replace hst := hst.drew
  repeat ((refine AQ ?_); first | (first | (refine p_ldc1 (q := ⟨tk, 0, none⟩) (fun w hS => (HB.out.2.2.1.1.below hS.kp.below).cell (off := 0) rfl) rfl rfl rfl (one_of (by decide +kernel)) ?_; go_frame) | (refine p_ldc1 (q := ⟨tk, 3, none⟩) (fun w hS => (HB.out.2.2.1.1.below hS.kp.below).cell (off := 3) rfl) rfl rfl rfl (one_of (by decide +kernel)) ?_; go_frame) | (refine p_ldc1 (q := ⟨tk, 4, none⟩) (fun w hS => (HB.out.2.2.1.1.below hS.kp.below).cell (off := 4) rfl) rfl rfl rfl (one_of (by decide +kernel)) ?_; go_frame)) | (refine QV ?_; go_frame))
  refine at_e (by simp only [List.getElem?_toArray, List.getElem?_cons_succ, List.getElem?_cons_zero]; rfl) rfl ?_
  refine e_call (by go_simp <;> first | rfl | exact ⟨rfl, rfl⟩) (placeA_any c tk pb _ _ (HB.out.2.2.1.below hst.kp.below)) ?_
  rintro e w4 ⟨rfl, hb⟩
  replace hst := hst.below hb
  refine ⟨_, rfl, fun _ => hst.sub (List.nil_sublist _), ?_⟩
  go_frame
  (refine at_e (by simp only [List.getElem?_toArray, List.getElem?_cons_succ, List.getElem?_cons_zero]; rfl) rfl ?_; refine E1 hst ?_; clear hst; intro w hst; refine ⟨fun _ => hst.sub (List.nil_sublist _), ?_⟩; go_frame)
  repeat ((refine AQ ?_); (refine QV ?_; go_frame))
  (refine at_e (by simp only [List.getElem?_toArray, List.getElem?_cons_succ, List.getElem?_cons_zero]; rfl) rfl ?_; refine E1 hst ?_; clear hst; intro w hst; refine ⟨fun _ => hst.sub (List.nil_sublist _), ?_⟩; go_frame)
  repeat ((refine AQ ?_); (refine QV ?_; go_frame))
  (refine at_e (by simp only [List.getElem?_toArray, List.getElem?_cons_succ, List.getElem?_cons_zero]; rfl) rfl ?_; refine E1 hst ?_; clear hst; intro w hst; refine ⟨fun _ => hst.sub (List.nil_sublist _), ?_⟩; go_frame)
  repeat ((refine AQ ?_); (refine QV ?_; go_frame))
  refine at_e (by simp only [List.getElem?_toArray, List.getElem?_cons_succ, List.getElem?_cons_zero]; rfl) rfl ?_
  refine p_part hst (off := 9) (vs := [.int .i64 1, .int .i64 (co + c), .int .i64 of, .int .i64 0, .int .i64 0]) (by exact rfl) (by exact rfl) (by exact rfl) (.head (l' := [.int .i64 14, .int .i64 ty, .string ByteArray.empty, .string te, .string te, .string ByteArray.empty, .bool fl, .bool false, .bool false, .int .i64 1, .int .i64 (co + c), .int .i64 of, .int .i64 0, .int .i64 0, .slice none 0 0, .slice none 0 0, .slice none 0 0, .slice none 0 0, .slice none 0 0])) rfl (by exact szn_of rfl rfl) (Nat.le_of_ble_eq_true rfl) rfl ?_
  clear hst
  intro w hst
  refine ⟨fun h => by first | exact absurd h (by decide) | exact hst.sub (List.nil_sublist _), ?_⟩
  go_frame
  unfold wpP
  go_wp2_with ((first | ((with_reducible refine at_load ?_); first | refine X1 hst ?_ | refine XW hst ?_) | ((with_reducible refine at_store ?_); (first | refine Y1 hst ?_ | refine YW hst ?_); clear hst; intro w hst)))
  refine ret_ct hst rfl rfl (by (repeat' (first | exact List.Mem.head _ | apply List.Mem.tail)); done) (by exact agg_of rfl rfl) rfl rfl ?_
  exact ⟨ByteArray.empty, p, cc, lo, hi, kb, rfl, fun _ => rfl, HB.out.2.2.2.2.2.2, HB.out.2.2.2.2.1.below hst.kp.below, HB.out.2.2.2.2.2.1.below hst.kp.below, hst.kp.below⟩
set_option maxRecDepth 100000 in
set_option maxHeartbeats 4000000 in
theorem alone_13 (c : Int) (h : NH) (a a2 : NH) (ka ka2 : F NH) (c0 c1 lo hi : Nat) (b ba tk pb : Nat) (w0 : World) (hk : h.kind = 13) (hblk : Blk w0 b 144 [ptr ba, ptr tk, .pointer none, nodeV a c0, nodeV a2 c1, .pointer none, .bool h.flow]) (hba : Blk w0 ba 235 [.string ByteArray.empty, .pointer none, .int .i64 0]) (ht : TokAt w0 c h tk pb) (hv : h.value = ByteArray.empty ∧ AstN w0 c lo hi (.cons a ka (.cons a2 ka2 .nil)) [c0, c1]) : Calls Tryz.prog 19 #[.iface 137 (ptr b)] w0 (AloneR c h (.cons a ka (.cons a2 ka2 .nil)) w0) := by
  have HB := Lib.hid (And.intro hblk (And.intro hba (And.intro ht hv)))
  clear hblk hba ht hv
  obtain ⟨kd, ty, va, te, fl, co, of⟩ := h
  simp only at hk
  subst hk
  obtain rfl : va = ByteArray.empty := HB.out.2.2.2.1
  unfold nodeV at HB
  ((have ta101 := fun v xT w => ta_miss (t := 137) 101 (by decide) (by decide) v xT w; have ta106 := fun v xT w => ta_miss (t := 137) 106 (by decide) (by decide) v xT w; have ta109 := fun v xT w => ta_miss (t := 137) 109 (by decide) (by decide) v xT w; have ta113 := fun v xT w => ta_miss (t := 137) 113 (by decide) (by decide) v xT w; have ta117 := fun v xT w => ta_miss (t := 137) 117 (by decide) (by decide) v xT w; have ta120 := fun v xT w => ta_miss (t := 137) 120 (by decide) (by decide) v xT w; have ta123 := fun v xT w => ta_miss (t := 137) 123 (by decide) (by decide) v xT w; have ta125 := fun v xT w => ta_miss (t := 137) 125 (by decide) (by decide) v xT w; have ta128 := fun v xT w => ta_miss (t := 137) 128 (by decide) (by decide) v xT w; have ta130 := fun v xT w => ta_miss (t := 137) 130 (by decide) (by decide) v xT w; have ta133 := fun v xT w => ta_miss (t := 137) 133 (by decide) (by decide) v xT w; have ta138 := fun v xT w => ta_miss (t := 137) 138 (by decide) (by decide) v xT w; have ta137 := fun v xT w => ta_hit 137 (by decide) v xT w); have hst := St.nil w0.heap.size ⟨[], []⟩ w0 (Nat.le_refl _); go_enter Tryz.func19, Tryz.ntmps19; go_wp2_with ((first | ((with_reducible refine at_load ?_); first | refine X1 hst ?_ | refine XW hst ?_) | ((with_reducible refine at_store ?_); (first | refine Y1 hst ?_ | refine YW hst ?_); clear hst; intro w hst) | ((first | ((with_reducible refine at_alloc ?_); refine ZP hst ?_) | ((with_reducible refine at_box ?_); refine ZP hst ?_) | ((with_reducible refine at_bslice ?_); refine ZS hst ?_)); clear hst; (first | ((fail_if_success have := b0); intro b0 w hb0 hst) | ((fail_if_success have := b1); intro b1 w hb1 hst) | ((fail_if_success have := b2); intro b2 w hb2 hst) | (intro b3 w hb3 hst))))); refine (type13 _ _).mono ?_; rintro e w1 ⟨rfl, rfl⟩; have hc0 := (HB.out.1.below hst.kp.below).cell (off := 0) rfl; have hp1 := prom_path (t := 137) (S := 144) (by decide) hc0; have hp2 := prom_comment (t := 137) (S := 144) (by decide) hc0; go_wp2_with ((first | ((with_reducible refine at_load ?_); first | refine X1 hst ?_ | refine XW hst ?_) | ((with_reducible refine at_store ?_); (first | refine Y1 hst ?_ | refine YW hst ?_); clear hst; intro w hst) | ((first | ((with_reducible refine at_alloc ?_); refine ZP hst ?_) | ((with_reducible refine at_box ?_); refine ZP hst ?_) | ((with_reducible refine at_bslice ?_); refine ZS hst ?_)); clear hst; (first | ((fail_if_success have := b0); intro b0 w hb0 hst) | ((fail_if_success have := b1); intro b1 w hb1 hst) | ((fail_if_success have := b2); intro b2 w hb2 hst) | (intro b3 w hb3 hst))))); (refine (getPath_any ba _ (HB.out.2.1.below hst.kp.below)).mono ?_; rintro e w1 ⟨rfl, rfl⟩); go_wp2_with ((first | ((with_reducible refine at_load ?_); first | refine X1 hst ?_ | refine XW hst ?_) | ((with_reducible refine at_store ?_); (first | refine Y1 hst ?_ | refine YW hst ?_); clear hst; intro w hst) | ((first | ((with_reducible refine at_alloc ?_); refine ZP hst ?_) | ((with_reducible refine at_box ?_); refine ZP hst ?_) | ((with_reducible refine at_bslice ?_); refine ZS hst ?_)); clear hst; (first | ((fail_if_success have := b0); intro b0 w hb0 hst) | ((fail_if_success have := b1); intro b1 w hb1 hst) | ((fail_if_success have := b2); intro b2 w hb2 hst) | (intro b3 w hb3 hst))))); (refine (getComment_any ba _ (HB.out.2.1.below hst.kp.below)).mono ?_; rintro e w1 ⟨rfl, rfl⟩); go_wp2_with ((first | ((with_reducible refine at_load ?_); first | refine X1 hst ?_ | refine XW hst ?_) | ((with_reducible refine at_store ?_); (first | refine Y1 hst ?_ | refine YW hst ?_); clear hst; intro w hst) | ((first | ((with_reducible refine at_alloc ?_); refine ZP hst ?_) | ((with_reducible refine at_box ?_); refine ZP hst ?_) | ((with_reducible refine at_bslice ?_); refine ZS hst ?_)); clear hst; (first | ((fail_if_success have := b0); intro b0 w hb0 hst) | ((fail_if_success have := b1); intro b1 w hb1 hst) | ((fail_if_success have := b2); intro b2 w hb2 hst) | (intro b3 w hb3 hst))))); (refine (told_nil _).mono ?_; rintro e w1 ⟨rfl, rfl⟩); clear hc0 hp1 hp2)
  go_upto_region 51 with ((first | ((with_reducible refine at_load ?_); first | refine X1 hst ?_ | refine XW hst ?_) | ((with_reducible refine at_store ?_); (first | refine Y1 hst ?_ | refine YW hst ?_); clear hst; intro w hst) | ((first | ((with_reducible refine at_alloc ?_); refine ZP hst ?_) | ((with_reducible refine at_box ?_); refine ZP hst ?_) | ((with_reducible refine at_bslice ?_); refine ZS hst ?_)); clear hst; (first | ((fail_if_success have := b0); intro b0 w hb0 hst) | ((fail_if_success have := b1); intro b1 w hb1 hst) | ((fail_if_success have := b2); intro b2 w hb2 hst) | (intro b3 w hb3 hst)))))
  refine wp_plan (fun w => St w0.heap.size ⟨[], []⟩ w0 w []) [0, 1, 2, 3, 4, 5, 6, 7, 8, 9, 10, 11, 13, 14, 16] (.q 0 (.q 1 (.q 2 (.q 3 (.q 4 (.q 5 (.q 6 (.q 7 (.q 8 (.q 9 (.q 10 (.q 11 (.e 12 true (.q 13 (.q 14 (.e 15 true (.q 16 (.e 17 false (.fin))))))))))))))))))) mixed (by kernel_rfl) (by kernel_rfl) (by kernel_rfl) (fun d v c a w h => by cases d <;> exact h) (hst.drew.sub (List.nil_sublist _)) ?_
  replace hst := hst.drew
  repeat ((refine AQ ?_); first | (refine p_ldc1 (q := ⟨b, 1, none⟩) (fun w hS => (HB.out.1.below hS.kp.below).cell (off := 1) rfl) rfl rfl rfl (one_of (by decide +kernel)) ?_; go_frame) | (refine p_ldc1 (q := ⟨b, 6, none⟩) (fun w hS => (HB.out.1.below hS.kp.below).cell (off := 6) rfl) rfl rfl rfl (one_of (by decide +kernel)) ?_; go_frame) | (refine p_ldc1 (q := ⟨b, 5, none⟩) (fun w hS => (HB.out.1.below hS.kp.below).cell (off := 5) rfl) rfl rfl rfl (one_of (by decide +kernel)) ?_; go_frame) | (refine QV ?_; go_frame))
  refine at_e (by simp only [List.getElem?_toArray, List.getElem?_cons_succ, List.getElem?_cons_zero]; rfl) rfl ?_
  refine e_call (by go_simp <;> first | rfl | exact ⟨rfl, rfl⟩) (told_nil _) ?_
  rintro e w4 ⟨rfl, rfl⟩
  refine ⟨_, rfl, fun _ => hst.sub (List.nil_sublist _), ?_⟩
  go_frame
  repeat ((refine AQ ?_); (refine QV ?_; go_frame))
  (refine at_e (by simp only [List.getElem?_toArray, List.getElem?_cons_succ, List.getElem?_cons_zero]; rfl) rfl ?_; refine E1 hst ?_; clear hst; intro w hst; refine ⟨fun _ => hst.sub (List.nil_sublist _), ?_⟩; go_frame)
  repeat ((refine AQ ?_); (refine QV ?_; go_frame))
  (refine at_e (by simp only [List.getElem?_toArray, List.getElem?_cons_succ, List.getElem?_cons_zero]; rfl) rfl ?_; refine E1 hst ?_; clear hst; intro w hst; refine ⟨fun _ => hst.sub (List.nil_sublist _), ?_⟩; go_frame)
  repeat ((refine AQ ?_); (refine QV ?_; go_frame))
  unfold wpP
  go_upto_region 52 with ((first | ((with_reducible refine at_load ?_); first | refine X1 hst ?_ | refine XW hst ?_) | ((with_reducible refine at_store ?_); (first | refine Y1 hst ?_ | refine YW hst ?_); clear hst; intro w hst)))
  refine wp_plan (fun w => St w0.heap.size ⟨[], []⟩ w0 w []) [0, 1, 2, 3, 4, 5, 6, 7, 10] (.q 0 (.q 1 (.q 2 (.q 3 (.q 4 (.q 5 (.q 6 (.q 7 (.e 8 true (.e 9 true (.q 10 (.fin)))))))))))) mixed (by kernel_rfl) (by kernel_rfl) (by kernel_rfl) (fun d v c a w h => by cases d <;> exact h) (hst.drew.sub (List.nil_sublist _)) ?_
  replace hst := hst.drew
  repeat ((refine AQ ?_); first | (refine p_ldc1 (q := ⟨b, 3, none⟩) (fun w hS => (HB.out.1.below hS.kp.below).cell (off := 3) rfl) rfl rfl rfl (one_of (by decide +kernel)) ?_; go_frame) | (refine p_ldc1 (q := ⟨b, 4, none⟩) (fun w hS => (HB.out.1.below hS.kp.below).cell (off := 4) rfl) rfl rfl rfl (one_of (by decide +kernel)) ?_; go_frame) | (refine QV ?_; go_frame))
  refine at_e (by simp only [List.getElem?_toArray, List.getElem?_cons_succ, List.getElem?_cons_zero]; rfl) rfl ?_
  refine p_newS hst (by go_simp; first | rfl | exact ⟨⟨rfl, rfl⟩, rfl⟩) ?_
  clear hst
  intro b2 w hb2 hst
  refine ⟨fun _ => hst.sub (List.nil_sublist _), ?_⟩
  go_frame
  refine at_e (by simp only [List.getElem?_toArray, List.getElem?_cons_succ, List.getElem?_cons_zero]; rfl) rfl ?_
  refine e_call (by go_simp <;> first | rfl | exact ⟨rfl, rfl⟩) (some_any b2 2 [.iface (tyOf a.kind) (ptr c0), .iface (tyOf a2.kind) (ptr c1)] [] _ (hst.blk (b := b2) (by (repeat' (first | exact List.Mem.head _ | apply List.Mem.tail)); done)) (by intro v hv; simp only [List.mem_cons, List.not_mem_nil, or_false] at hv; rcases hv with rfl | rfl <;> exact ⟨_, _, rfl⟩) (Nat.le_of_ble_eq_true rfl)) ?_
  rintro e w4 ⟨oid, cap, sp, rfl, hgr, hsm⟩
  obtain ⟨g, rfl⟩ : ∃ g, oid = some g := by
    cases oid with
    | none => have := hgr.nil rfl; have := hgr.len; have := hgr.le; simp at *; omega
    | some g => exact ⟨g, rfl⟩
  have hlg := hsm.row_lo (b := g) (by (repeat' (first | exact List.Mem.head _ | apply List.Mem.tail)); done)
  have hz4 := hst.kp.size
  replace hst := ((hst.below hsm.kp.below).sub (.cons _ (List.Sublist.refl _))).addAt (b := g) (by omega) (hsm.blk (b := g) (by (repeat' (first | exact List.Mem.head _ | apply List.Mem.tail)); done)) rfl
  have HG := Lib.hid hgr
  clear hgr hsm
  refine ⟨_, rfl, fun _ => hst.sub (List.nil_sublist _), ?_⟩
  go_frame
  repeat ((refine AQ ?_); (refine QV ?_; go_frame))
  unfold wpP
  go_upto_region 77 with ((first | ((with_reducible refine at_load ?_); first | refine X1 hst ?_ | refine XW hst ?_) | ((with_reducible refine at_store ?_); (first | refine Y1 hst ?_ | refine YW hst ?_); clear hst; intro w hst)))
  refine wp_plan (fun w => St w0.heap.size ⟨[], []⟩ w0 w []) [0, 1, 2, 3, 4, 5, 6, 7, 8, 9, 10, 11, 12, 14, 16, 18, 20] (.q 0 (.q 1 (.q 2 (.q 3 (.q 4 (.q 5 (.q 6 (.q 7 (.q 8 (.q 9 (.q 10 (.q 11 (.q 12 (.q 14 (.e 13 true (.e 15 true (.q 16 (.e 17 true (.q 18 (.e 19 true (.q 20 (.e 21 false (.fin))))))))))))))))))))))) mixed (by kernel_rfl) (by kernel_rfl) (by kernel_rfl) (fun d v c a w h => by cases d <;> exact h) (hst.drew.sub (List.nil_sublist _)) ?_
  replace hst := hst.drew
  repeat ((refine AQ ?_); first | (first | (refine p_ldc1 (q := ⟨tk, 0, none⟩) (fun w hS => (HB.out.2.2.1.1.below hS.kp.below).cell (off := 0) rfl) rfl rfl rfl (one_of (by decide +kernel)) ?_; go_frame) | (refine p_ldc1 (q := ⟨tk, 3, none⟩) (fun w hS => (HB.out.2.2.1.1.below hS.kp.below).cell (off := 3) rfl) rfl rfl rfl (one_of (by decide +kernel)) ?_; go_frame) | (refine p_ldc1 (q := ⟨tk, 4, none⟩) (fun w hS => (HB.out.2.2.1.1.below hS.kp.below).cell (off := 4) rfl) rfl rfl rfl (one_of (by decide +kernel)) ?_; go_frame)) | (refine QV ?_; go_frame))
  refine at_e (by simp only [List.getElem?_toArray, List.getElem?_cons_succ, List.getElem?_cons_zero]; rfl) rfl ?_
  refine e_call (by go_simp <;> first | rfl | exact ⟨rfl, rfl⟩) (placeA_any c tk pb _ _ (HB.out.2.2.1.below hst.kp.below)) ?_
  rintro e w4 ⟨rfl, hb⟩
  replace hst := hst.below hb
  refine ⟨_, rfl, fun _ => hst.sub (List.nil_sublist _), ?_⟩
  go_frame
  (refine at_e (by simp only [List.getElem?_toArray, List.getElem?_cons_succ, List.getElem?_cons_zero]; rfl) rfl ?_; refine E1 hst ?_; clear hst; intro w hst; refine ⟨fun _ => hst.sub (List.nil_sublist _), ?_⟩; go_frame)
  repeat ((refine AQ ?_); (refine QV ?_; go_frame))
  (refine at_e (by simp only [List.getElem?_toArray, List.getElem?_cons_succ, List.getElem?_cons_zero]; rfl) rfl ?_; refine E1 hst ?_; clear hst; intro w hst; refine ⟨fun _ => hst.sub (List.nil_sublist _), ?_⟩; go_frame)
  repeat ((refine AQ ?_); (refine QV ?_; go_frame))
  (refine at_e (by simp only [List.getElem?_toArray, List.getElem?_cons_succ, List.getElem?_cons_zero]; rfl) rfl ?_; refine E1 hst ?_; clear hst; intro w hst; refine ⟨fun _ => hst.sub (List.nil_sublist _), ?_⟩; go_frame)
  repeat ((refine AQ ?_); (refine QV ?_; go_frame))
  refine at_e (by simp only [List.getElem?_toArray, List.getElem?_cons_succ, List.getElem?_cons_zero]; rfl) rfl ?_
  refine p_part hst (off := 9) (vs := [.int .i64 1, .int .i64 (co + c), .int .i64 of, .int .i64 0, .int .i64 0]) (by exact rfl) (by exact rfl) (by exact rfl) (.tail (.head (l' := [.int .i64 13, .int .i64 ty, .string ByteArray.empty, .string te, .string te, .string ByteArray.empty, .bool fl, .bool false, .bool false, .int .i64 1, .int .i64 (co + c), .int .i64 of, .int .i64 0, .int .i64 0, .slice none 0 0, .slice none 0 0, .slice none 0 0, .slice none 0 0, .slice none 0 0]))) rfl (by exact szn_of rfl rfl) (Nat.le_of_ble_eq_true rfl) rfl ?_
  clear hst
  intro w hst
  refine ⟨fun h => by first | exact absurd h (by decide) | exact hst.sub (List.nil_sublist _), ?_⟩
  go_frame
  unfold wpP
  go_wp2_with ((first | ((with_reducible refine at_load ?_); first | refine X1 hst ?_ | refine XW hst ?_) | ((with_reducible refine at_store ?_); (first | refine Y1 hst ?_ | refine YW hst ?_); clear hst; intro w hst)))
  refine ret_ct hst rfl rfl (by (repeat' (first | exact List.Mem.head _ | apply List.Mem.tail)); done) (by exact agg_of rfl rfl) rfl rfl ?_
  exact ⟨ByteArray.empty, some ⟨g, 0, none⟩, cap, lo, hi, [c0, c1], rfl, fun _ => rfl, HG.out.le, .inr ⟨g, sp, rfl, hst.blk (b := g) (by (repeat' (first | exact List.Mem.head _ | apply List.Mem.tail)); done)⟩, HB.out.2.2.2.2.below hst.kp.below, hst.kp.below⟩
end Go.Proofs.YtpajcfkldnbpfaaGreatDoor
