/- alone: mappings. -/
import Derived.Test.YtpajcfkldnbpfaaGreatDoorV22
import Derived.Test.YtpajcfkldnbpfaaGreatDoorV18
set_option linter.unusedSimpArgs false
set_option linter.unusedVariables false
namespace Go.Proofs.YtpajcfkldnbpfaaGreatDoor
open Go.RowKit
set_option maxRecDepth 100000 in
set_option maxHeartbeats 4000000 in
theorem alone_11 (c : Int) (h : NH) (k : F NH) (kb : List Nat) (lo hi cc : Nat) (p : Option Addr) (b ba tk pb : Nat) (w0 : World) (hk : h.kind = 11) (hblk : Blk w0 b 136 [ptr ba, ptr tk, .pointer none, .bool h.flow, .slice p k.len cc, .pointer none]) (hba : Blk w0 ba 235 [.string ByteArray.empty, .pointer none, .int .i64 0]) (ht : TokAt w0 c h tk pb) (hv : h.value = ByteArray.empty ∧ SlV w0 137 p (kb.map ptr) ∧ AstN w0 c lo hi k kb ∧ k.len ≤ cc ∧ allTop (fun x => x.kind = 13) k ∧ k.len ≤ 1000) : Calls Tryz.prog 19 #[.iface 133 (ptr b)] w0 (AloneR c h k w0) := by
  have HB := Lib.hid (And.intro hblk (And.intro hba (And.intro ht hv)))
  clear hblk hba ht hv
  obtain ⟨kd, ty, va, te, fl, co, of⟩ := h
  simp only at hk
  subst hk
  have hk1 : k.len ≤ 1000 := HB.out.2.2.2.2.2.2.2.2
  obtain rfl : va = ByteArray.empty := HB.out.2.2.2.1
  ((have ta101 := fun v xT w => ta_miss (t := 133) 101 (by decide) (by decide) v xT w; have ta106 := fun v xT w => ta_miss (t := 133) 106 (by decide) (by decide) v xT w; have ta109 := fun v xT w => ta_miss (t := 133) 109 (by decide) (by decide) v xT w; have ta113 := fun v xT w => ta_miss (t := 133) 113 (by decide) (by decide) v xT w; have ta117 := fun v xT w => ta_miss (t := 133) 117 (by decide) (by decide) v xT w; have ta120 := fun v xT w => ta_miss (t := 133) 120 (by decide) (by decide) v xT w; have ta123 := fun v xT w => ta_miss (t := 133) 123 (by decide) (by decide) v xT w; have ta125 := fun v xT w => ta_miss (t := 133) 125 (by decide) (by decide) v xT w; have ta128 := fun v xT w => ta_miss (t := 133) 128 (by decide) (by decide) v xT w; have ta130 := fun v xT w => ta_miss (t := 133) 130 (by decide) (by decide) v xT w; have ta133 := fun v xT w => ta_hit 133 (by decide) v xT w); have hst := St.nil w0.heap.size ⟨[], []⟩ w0 (Nat.le_refl _); go_enter Tryz.func19, Tryz.ntmps19; go_wp2_with ((first | ((with_reducible refine at_load ?_); first | refine X1 hst ?_ | refine XW hst ?_) | ((with_reducible refine at_store ?_); (first | refine Y1 hst ?_ | refine YW hst ?_); clear hst; intro w hst) | ((first | ((with_reducible refine at_alloc ?_); refine ZP hst ?_) | ((with_reducible refine at_box ?_); refine ZP hst ?_) | ((with_reducible refine at_bslice ?_); refine ZS hst ?_)); clear hst; (first | ((fail_if_success have := b0); intro b0 w hb0 hst) | ((fail_if_success have := b1); intro b1 w hb1 hst) | (intro b2 w hb2 hst))))); refine (type11 _ _).mono ?_; rintro e w1 ⟨rfl, rfl⟩; have hc0 := (HB.out.1.below hst.kp.below).cell (off := 0) rfl; have hp1 := prom_path (t := 133) (S := 136) (by decide) hc0; have hp2 := prom_comment (t := 133) (S := 136) (by decide) hc0; go_wp2_with ((first | ((with_reducible refine at_load ?_); first | refine X1 hst ?_ | refine XW hst ?_) | ((with_reducible refine at_store ?_); (first | refine Y1 hst ?_ | refine YW hst ?_); clear hst; intro w hst) | ((first | ((with_reducible refine at_alloc ?_); refine ZP hst ?_) | ((with_reducible refine at_box ?_); refine ZP hst ?_) | ((with_reducible refine at_bslice ?_); refine ZS hst ?_)); clear hst; (first | ((fail_if_success have := b0); intro b0 w hb0 hst) | ((fail_if_success have := b1); intro b1 w hb1 hst) | (intro b2 w hb2 hst))))); (refine (getPath_any ba _ (HB.out.2.1.below hst.kp.below)).mono ?_; rintro e w1 ⟨rfl, rfl⟩); go_wp2_with ((first | ((with_reducible refine at_load ?_); first | refine X1 hst ?_ | refine XW hst ?_) | ((with_reducible refine at_store ?_); (first | refine Y1 hst ?_ | refine YW hst ?_); clear hst; intro w hst) | ((first | ((with_reducible refine at_alloc ?_); refine ZP hst ?_) | ((with_reducible refine at_box ?_); refine ZP hst ?_) | ((with_reducible refine at_bslice ?_); refine ZS hst ?_)); clear hst; (first | ((fail_if_success have := b0); intro b0 w hb0 hst) | ((fail_if_success have := b1); intro b1 w hb1 hst) | (intro b2 w hb2 hst))))); (refine (getComment_any ba _ (HB.out.2.1.below hst.kp.below)).mono ?_; rintro e w1 ⟨rfl, rfl⟩); go_wp2_with ((first | ((with_reducible refine at_load ?_); first | refine X1 hst ?_ | refine XW hst ?_) | ((with_reducible refine at_store ?_); (first | refine Y1 hst ?_ | refine YW hst ?_); clear hst; intro w hst) | ((first | ((with_reducible refine at_alloc ?_); refine ZP hst ?_) | ((with_reducible refine at_box ?_); refine ZP hst ?_) | ((with_reducible refine at_bslice ?_); refine ZS hst ?_)); clear hst; (first | ((fail_if_success have := b0); intro b0 w hb0 hst) | ((fail_if_success have := b1); intro b1 w hb1 hst) | (intro b2 w hb2 hst))))); (refine (told_nil _).mono ?_; rintro e w1 ⟨rfl, rfl⟩); clear hc0 hp1 hp2)
  go_upto_region 40 with ((first | ((with_reducible refine at_load ?_); first | refine X1 hst ?_ | refine XW hst ?_) | ((with_reducible refine at_store ?_); (first | refine Y1 hst ?_ | refine YW hst ?_); clear hst; intro w hst) | ((first | ((with_reducible refine at_alloc ?_); refine ZP hst ?_) | ((with_reducible refine at_box ?_); refine ZP hst ?_) | ((with_reducible refine at_bslice ?_); refine ZS hst ?_)); clear hst; (first | ((fail_if_success have := b0); intro b0 w hb0 hst) | ((fail_if_success have := b1); intro b1 w hb1 hst) | (intro b2 w hb2 hst)))))
  refine wp_plan (fun w => St w0.heap.size ⟨[], []⟩ w0 w []) [0, 1, 2, 3, 4, 5, 6, 7, 8, 9, 10, 11, 13, 14, 16] (.q 0 (.q 1 (.q 2 (.q 3 (.q 4 (.q 5 (.q 6 (.q 7 (.q 8 (.q 9 (.q 10 (.q 11 (.e 12 true (.q 13 (.q 14 (.e 15 true (.q 16 (.e 17 false (.fin))))))))))))))))))) mixed (by kernel_rfl) (by kernel_rfl) (by kernel_rfl) (fun d v c a w h => by cases d <;> exact h) (hst.drew.sub (List.nil_sublist _)) ?_
  replace hst := hst.drew
  repeat ((refine AQ ?_); first | (refine p_ldc1 (q := ⟨b, 1, none⟩) (fun w hS => (HB.out.1.below hS.kp.below).cell (off := 1) rfl) rfl rfl rfl (one_of (by decide +kernel)) ?_; go_frame) | (refine p_ldc1 (q := ⟨b, 3, none⟩) (fun w hS => (HB.out.1.below hS.kp.below).cell (off := 3) rfl) rfl rfl rfl (one_of (by decide +kernel)) ?_; go_frame) | (refine p_ldc1 (q := ⟨b, 5, none⟩) (fun w hS => (HB.out.1.below hS.kp.below).cell (off := 5) rfl) rfl rfl rfl (one_of (by decide +kernel)) ?_; go_frame) | (refine QV ?_; go_frame))
  refine at_e (by simp only [List.getElem?_toArray, List.getElem?_cons_succ, List.getElem?_cons_zero]; rfl) rfl ?_
  refine e_call (by go_simp <;> first | rfl | exact ⟨rfl, rfl⟩) (told_nil _) ?_
  rintro e w4 ⟨rfl, rfl⟩
  refine ⟨_, rfl, fun _ => hst.sub (List.nil_sublist _), ?_⟩
  go_frame
  repeat ((refine AQ ?_); (refine QV ?_; go_frame))
  (refine at_e (by simp only [List.getElem?_toArray, List.getElem?_cons_succ, List.getElem?_cons_zero]; rfl) rfl ?_; refine E1 hst ?_; clear hst; intro w hst; refine ⟨fun _ => hst.sub (List.nil_sublist _), ?_⟩; go_frame)
  repeat ((refine AQ ?_); (refine QV ?_; go_frame))
  (refine at_e (by simp only [List.getElem?_toArray, List.getElem?_cons_succ, List.getElem?_cons_zero]; rfl) rfl ?_; refine E1 hst ?_; clear hst; intro w hst; refine ⟨fun _ => hst.sub (List.nil_sublist _), ?_⟩; go_frame)
  unfold wpP
  go_wp2_with (first | ((with_reducible refine at_load ?_); refine wl_ldc1 rfl rfl rfl ((HB.out.1.below hst.kp.below).cell (off := 4) rfl) (one_of (by decide +kernel)) ?_) | (first | ((with_reducible refine at_load ?_); first | refine X1 hst ?_ | refine XW hst ?_) | ((with_reducible refine at_store ?_); (first | refine Y1 hst ?_ | refine YW hst ?_); clear hst; intro w hst)))
  have HL := Lib.hid hst
  clear hst
  go_loopw [199, 6] (fun i o wx => ∃ (m : Nat) (oid : Option Nat) (cap : Nat) (sp : List Value), i = .int .i64 m ∧ m ≤ k.len ∧ o = .slice (slP oid) m cap ∧ Hid (Gr 1 oid m cap ((ifs k kb).take m) sp) ∧ Hid (St w0.heap.size ⟨[], []⟩ w0 wx [(oid, (ifs k kb).take m ++ sp, 55), (some b1, [.int .i64 11, .int .i64 0, .string ByteArray.empty, .string ByteArray.empty, .string ByteArray.empty, .string ByteArray.empty, .bool fl, .bool false, .bool false, .int .i64 0, .int .i64 0, .int .i64 0, .int .i64 0, .int .i64 0, .slice none 0 0, .slice none 0 0, .slice none 0 0, .slice none 0 0, .slice none 0 0], 31), (some b0, [.int .i64 0, .int .i64 0, .string ByteArray.empty, .string ByteArray.empty, .string ByteArray.empty, .string ByteArray.empty, .bool false, .bool false, .bool false, .int .i64 0, .int .i64 0, .int .i64 0, .int .i64 0, .int .i64 0, .slice none 0 0, .slice none 0 0, .slice none 0 0, .slice none 0 0, .slice none 0 0], 31) ])) (fun i _ _ => k.len - (intOf i).toNat)
  case atStart => exact ⟨0, none, 0, [], rfl, Nat.zero_le _, rfl, Lib.hid (Gr.empty 1), Lib.hid (HL.out.addNone [] 55)⟩
  case round =>
    obtain ⟨m, oid, cap, sp', rfl, hmk, rfl, HG, HL2⟩ := hrel
    by_cases hm : (m : Int) < k.len
    · obtain ⟨x, kk, hg⟩ := F.get_lt (f := k) (i := m) (by omega)
      obtain ⟨c0, l1, h1, e1, e2, -⟩ := HB.out.2.2.2.2.2.1.get hg
      have hx13 := allTop_get HB.out.2.2.2.2.2.2.2.1 hg
      have e4 : (ifs k kb)[m]? = some (.iface 137 (ptr c0)) := by rw [e2]; unfold nodeV; rw [hx13]; rfl
      have e3 : (kb.map ptr)[m]? = some (ptr c0) := by rw [List.getElem?_map, e1]; rfl
      obtain ⟨g, sp2, rfl, hbg⟩ := HB.out.2.2.2.2.1.some (m := m) (List.getElem?_eq_some_iff.1 e3).1
      have hcell := (hbg.below HL2.out.kp.below).cell (off := m) (by rw [List.getElem?_append_left (List.getElem?_eq_some_iff.1 e3).1]; exact e3)
      have htk : (ifs k kb).take (m + 1) = (ifs k kb).take m ++ [.iface 137 (ptr c0)] := by rw [List.take_add_one, e4]; rfl
      have HT := Lib.hid htk
      have hst := HL2.out
      have hgr := HG.out
      clear e1 e2 e3 e4 hx13 hbg htk hg
      go_wp2_with (first | (first | ((with_reducible refine at_bslice ?_); (refine ZS hst ?_; clear hst; (first | ((fail_if_success have := b0); intro b0 w hb0 hst) | ((fail_if_success have := b1); intro b1 w hb1 hst) | (intro b2 w hb2 hst)))) | ((with_reducible refine at_append ?_); (refine wl_appH hst rfl rfl rfl rfl (by first | exact el213 | exact el22 | exact el28 | exact el29 | exact el48 | exact el52 | exact el134 | exact el146 | exact el205) hgr (by decide) (by decide) rfl rfl (by omega) (by simp only [maxLen]; omega) ?_; clear hst hgr; intro oid cap sp w hst hgr hno))) | (first | ((with_reducible refine at_load ?_); first | refine X1 hst ?_ | refine XW hst ?_) | ((with_reducible refine at_store ?_); (first | refine Y1 hst ?_ | refine YW hst ?_); clear hst; intro w hst)))
      go_round
      case rel => exact ⟨m + 1, oid, cap, sp, by rw [show (m : Int) + 1 = ((m + 1 : Nat) : Int) by omega], by omega, rfl, Lib.hid (by rw [HT.out]; exact hgr), Lib.hid (by rw [HT.out]; exact hst)⟩
      case measure => simp [intOf]; omega
    · have e : m = k.len := by omega
      subst e
      have hst := HL2.out
      have hil : (ifs k kb).take k.len = ifs k kb := List.take_of_length_le (by rw [ifs_length HB.out.2.2.2.2.2.1.len]; exact Nat.le_refl _)
      rw [hil] at hst
      have hgr := HG.out
      rw [hil] at hgr
      have HG2 := Lib.hid hgr
      clear hgr hil
      go_upto_region 77 with ((first | ((with_reducible refine at_load ?_); first | refine X1 hst ?_ | refine XW hst ?_) | ((with_reducible refine at_store ?_); (first | refine Y1 hst ?_ | refine YW hst ?_); clear hst; intro w hst)))
      refine wp_plan (fun w => St w0.heap.size ⟨[], []⟩ w0 w []) [0, 1, 2, 3, 4, 5, 6, 7, 8, 9, 10, 11, 12, 14, 16, 18, 20] (.q 0 (.q 1 (.q 2 (.q 3 (.q 4 (.q 5 (.q 6 (.q 7 (.q 8 (.q 9 (.q 10 (.q 11 (.q 12 (.q 14 (.e 13 true (.e 15 true (.q 16 (.e 17 true (.q 18 (.e 19 true (.q 20 (.e 21 false (.fin))))))))))))))))))))))) mixed (by kernel_rfl) (by kernel_rfl) (by kernel_rfl) (fun d v c a w h => by cases d <;> exact h) (hst.drew.sub (List.nil_sublist _)) ?_
      replace hst := hst.drew
      repeat ((refine AQ ?_); first | (first | (refine p_ldc1 (q := ⟨tk, 0, none⟩) (fun w hS => (HB.out.2.2.1.1.below hS.kp.below).cell (off := 0) rfl) rfl rfl rfl (one_of (by decide +kernel)) ?_; go_frame) | (refine p_ldc1 (q := ⟨tk, 3, none⟩) (fun w hS => (HB.out.2.2.1.1.below hS.kp.below).cell (off := 3) rfl) rfl rfl rfl (one_of (by decide +kernel)) ?_; go_frame) | (refine p_ldc1 (q := ⟨tk, 4, none⟩) (fun w hS => (HB.out.2.2.1.1.below hS.kp.below).cell (off := 4) rfl) rfl rfl rfl (one_of (by decide +kernel)) ?_; go_frame)) | (refine QV ?_; go_frame))
      refine at_e (by simp only [List.getElem?_toArray, List.getElem?_cons_succ, List.getElem?_cons_zero]; rfl) rfl ?_
      refine e_call (by go_simp <;> first | rfl | exact ⟨rfl, rfl⟩) (placeA_any c tk pb _ _ (HB.out.2.2.1.below hst.kp.below)) ?_
      rintro e w4 ⟨rfl, hb⟩
      replace hst := hst.below hb
      refine ⟨_, rfl, fun _ => hst.sub (List.nil_sublist _), ?_⟩
      go_frame
      (refine at_e (by simp only [List.getElem?_toArray, List.getElem?_cons_succ, List.getElem?_cons_zero]; rfl) rfl ?_; refine E1 hst ?_; clear hst; intro w hst; refine ⟨fun _ => hst.sub (List.nil_sublist _), ?_⟩; go_frame)
      repeat ((refine AQ ?_); (refine QV ?_; go_frame))
      (refine at_e (by simp only [List.getElem?_toArray, List.getElem?_cons_succ, List.getElem?_cons_zero]; rfl) rfl ?_; refine E1 hst ?_; clear hst; intro w hst; refine ⟨fun _ => hst.sub (List.nil_sublist _), ?_⟩; go_frame)
      repeat ((refine AQ ?_); (refine QV ?_; go_frame))
      (refine at_e (by simp only [List.getElem?_toArray, List.getElem?_cons_succ, List.getElem?_cons_zero]; rfl) rfl ?_; refine E1 hst ?_; clear hst; intro w hst; refine ⟨fun _ => hst.sub (List.nil_sublist _), ?_⟩; go_frame)
      repeat ((refine AQ ?_); (refine QV ?_; go_frame))
      refine at_e (by simp only [List.getElem?_toArray, List.getElem?_cons_succ, List.getElem?_cons_zero]; rfl) rfl ?_
      refine p_part hst (off := 9) (vs := [.int .i64 1, .int .i64 (co + c), .int .i64 of, .int .i64 0, .int .i64 0]) (by exact rfl) (by exact rfl) (by exact rfl) (.tail (.head (l' := [.int .i64 11, .int .i64 ty, .string ByteArray.empty, .string te, .string te, .string ByteArray.empty, .bool fl, .bool false, .bool false, .int .i64 1, .int .i64 (co + c), .int .i64 of, .int .i64 0, .int .i64 0, .slice none 0 0, .slice none 0 0, .slice none 0 0, .slice none 0 0, .slice none 0 0]))) rfl (by exact szn_of rfl rfl) (Nat.le_of_ble_eq_true rfl) rfl ?_
      clear hst
      intro w hst
      refine ⟨fun h => by first | exact absurd h (by decide) | exact hst.sub (List.nil_sublist _), ?_⟩
      go_frame
      unfold wpP
      go_wp2_with ((first | ((with_reducible refine at_load ?_); first | refine X1 hst ?_ | refine XW hst ?_) | ((with_reducible refine at_store ?_); (first | refine Y1 hst ?_ | refine YW hst ?_); clear hst; intro w hst)))
      refine ret_ct hst rfl rfl (by (repeat' (first | exact List.Mem.head _ | apply List.Mem.tail)); done) (by exact agg_of rfl rfl) rfl rfl ?_
      exact ⟨ByteArray.empty, slP oid, cap, lo, hi, kb, rfl, fun _ => rfl, HG2.out.le, SlV.of_row hst (by (repeat' (first | exact List.Mem.head _ | apply List.Mem.tail)); done) HG2.out (lo := 0) (fun _ _ => Nat.zero_le _) (Agree.refl 0 w), HB.out.2.2.2.2.2.1.below hst.kp.below, hst.kp.below⟩
end Go.Proofs.YtpajcfkldnbpfaaGreatDoor
