/- The visitor's Visit. Small things of the comparison. SameNode. SameNode at floats. What a walk sees. Walk, at leaves. -/
import Derived.Test.YtpajcfkldnbpfaaGreatDoorV16
set_option linter.unusedSimpArgs false
set_option linter.unusedVariables false
namespace Go.Proofs.YtpajcfkldnbpfaaGreatDoor
open Go.RowKit
def VisR (B vb n : Nat) (xs : List Value) (w0 : World) (e : Ending) (w' : World) : Prop := ∃ (oid : Option Nat) (cap : Nat) (sp : List Value), e = .returned (.iface 83 (.agg #[ptr vb])) ∧ St B [52, 55] w0 w' [(some vb, [.slice (slP oid) n cap], 52), (oid, xs ++ sp, 55)] ∧ Gr 1 oid n cap xs sp
set_option maxRecDepth 100000 in
set_option maxHeartbeats 1000000 in
theorem visit_any (B vb n cap t : Nat) (x : Value) (oid : Option Nat) (xs sp : List Value) (w0 : World) (hst : St B [52, 55] w0 w0 [(some vb, [.slice (slP oid) n cap], 52), (oid, xs ++ sp, 55)]) (hgr : Gr 1 oid n cap xs sp) (hn : n ≤ 1000) : Calls Tryz.prog 221 #[.agg #[ptr vb], .iface t x] w0 (VisR B vb (n + 1) (xs ++ [.iface t x]) w0) := by
  go_enter Tryz.func221, Tryz.ntmps221
  go_upto_region 3 with ((first | ((with_reducible refine at_load ?_); first | refine X1 hst ?_ | refine XW hst ?_) | ((with_reducible refine at_store ?_); (first | refine Y1 hst ?_ | refine YW hst ?_); clear hst; intro w hst) | ((first | ((with_reducible refine at_alloc ?_); refine ZP hst ?_) | ((with_reducible refine at_box ?_); refine ZP hst ?_) | ((with_reducible refine at_bslice ?_); refine ZS hst ?_)); clear hst; (first | ((fail_if_success have := b0); intro b0 w hb0 hst) | ((fail_if_success have := b1); intro b1 w hb1 hst) | (intro b2 w hb2 hst)))))
  replace hst := hst.perm (List.perm_append_comm (l₁ := [_, _]) (l₂ := [_]))
  simp only [List.cons_append, List.nil_append] at hst
  refine wp_plan (fun w => St B [52, 55] w0 w [(some b0, [ptr vb], 83), (some vb, [.slice (slP oid) n cap], 52)]) [0, 1, 2, 3, 4, 5, 6] (.q 0 (.q 1 (.q 2 (.q 3 (.q 4 (.q 5 (.q 6 (.e 7 true (.e 8 true (.e 9 false (.e 10 false (.fin)))))))))))) mixed (by kernel_rfl) (by kernel_rfl) (by kernel_rfl) (fun d v c a w h => by cases d <;> exact h) (hst.drew.sub (.cons _ (List.Sublist.refl _))) ?_
  replace hst := hst.drew
  repeat ((refine AQ ?_); first | (refine Q1 ?_; go_frame) | (refine QW ?_; go_frame) | (refine QV ?_; go_frame))
  refine at_e (by simp only [List.getElem?_toArray, List.getElem?_cons_succ, List.getElem?_cons_zero]; rfl) rfl ?_
  refine p_newS hst (by go_simp; first | rfl | exact ⟨⟨rfl, rfl⟩, rfl⟩) ?_
  clear hst
  intro b1 w hb1 hst
  refine ⟨fun _ => hst.sub (.cons _ (.cons _ (List.Sublist.refl _))), ?_⟩
  go_frame
  refine at_e (by simp only [List.getElem?_toArray, List.getElem?_cons_succ, List.getElem?_cons_zero]; rfl) rfl ?_
  refine p_appH hst rfl rfl rfl (by first | exact el213 | exact el22 | exact el28 | exact el29 | exact el48 | exact el52 | exact el134 | exact el146 | exact el205) hgr (by decide) (by decide) rfl rfl (by omega) (by simp only [maxLen]; omega) ?_
  clear hst
  intro oid2 cap2 sp2 w hst hgr2 hno
  refine ⟨fun _ => hst.sub (.cons _ (List.Sublist.refl _)), ?_⟩
  go_frame
  refine at_e (by simp only [List.getElem?_toArray, List.getElem?_cons_succ, List.getElem?_cons_zero]; rfl) rfl ?_
  refine e_val (by go_simp; first | rfl | exact ⟨rfl, rfl⟩) (fun h => by cases h) ?_
  go_frame
  refine at_e (by simp only [List.getElem?_toArray, List.getElem?_cons_succ, List.getElem?_cons_zero]; rfl) rfl ?_
  (refine E1 hst ?_; clear hst; intro w hst; refine ⟨?_, ?_⟩; rotate_left; go_frame)
  · unfold wpP
    go_wp2_with ((first | ((with_reducible refine at_load ?_); first | refine X1 hst ?_ | refine XW hst ?_) | ((with_reducible refine at_store ?_); (first | refine Y1 hst ?_ | refine YW hst ?_); clear hst; intro w hst)))
    refine ret_tmp rfl rfl rfl ?_
    exact ⟨oid2, cap2, sp2, rfl, (hst.sub (.cons_cons _ (.cons _ (List.Sublist.refl _)))).perm (List.Perm.swap _ _ _), hgr2⟩
  · intro h; cases h
end Go.Proofs.YtpajcfkldnbpfaaGreatDoor
namespace Go.Proofs.YtpajcfkldnbpfaaGreatDoor
open Go.RowKit
set_option maxHeartbeats 400000 in
theorem sameTexts_nil (w : World) : Calls Tryz.prog 41 #[.slice none 0 0, .slice none 0 0] w fun e w' => e = .returned (.bool true) ∧ w = w' := by
  go_enter Tryz.func41, Tryz.ntmps41
  go_wp2
  go_loopw [13] (fun i wx => i = .int .i64 0 ∧ w = wx) (fun _ _ => 0)
  case atStart => exact ⟨rfl, rfl⟩
  case round =>
    obtain ⟨rfl, rfl⟩ := hrel
    go_wp2
    exact ret_tmp rfl rfl rfl ⟨rfl, rfl⟩
set_option maxHeartbeats 400000 in
theorem told_nil (w : World) : Calls Tryz.prog 34 #[.pointer none] w fun e w' => e = .returned (.slice none 0 0) ∧ w = w' := by
  go_enter Tryz.func34, Tryz.ntmps34
  go_wp2
  exact ret_tmp rfl rfl rfl ⟨rfl, rfl⟩
set_option maxHeartbeats 400000 in
theorem aloneN_any (h : NH) (p : Option Addr) (n c : Nat) (w0 : World) : Calls Tryz.prog 21 #[nval h (.slice p n c)] w0 fun e w' => e = .returned (nval h (.slice none 0 0)) ∧ Below w0.heap.size w0 w' := by
  have hst := St.nil w0.heap.size ⟨[], []⟩ w0 (Nat.le_refl _)
  unfold nval
  go_enter Tryz.func21, Tryz.ntmps21
  go_wp2_with ((first | ((with_reducible refine at_load ?_); first | refine X1 hst ?_ | refine XW hst ?_) | ((with_reducible refine at_store ?_); (first | refine Y1 hst ?_ | refine YW hst ?_); clear hst; intro w hst) | ((first | ((with_reducible refine at_alloc ?_); refine ZP hst ?_) | ((with_reducible refine at_box ?_); refine ZP hst ?_) | ((with_reducible refine at_bslice ?_); refine ZS hst ?_)); clear hst; (intro b0 w hb0 hst))))
  refine ret_cell hst rfl rfl (by (repeat' (first | exact List.Mem.head _ | apply List.Mem.tail)); done) (by exact agg_of rfl rfl) rfl ?_
  exact ⟨rfl, hst.kp.below⟩
end Go.Proofs.YtpajcfkldnbpfaaGreatDoor
namespace Go.Proofs.YtpajcfkldnbpfaaGreatDoor
open Go.RowKit
set_option maxRecDepth 100000 in
set_option maxHeartbeats 1000000 in
theorem sameNode_eq (h : NH) (p p' : Option Addr) (n c n' c' : Nat) (w0 : World) (hk : h.kind ≠ 5) : Calls Tryz.prog 20 #[nval h (.slice p n c), nval h (.slice p' n' c')] w0 fun e w' => e = .returned (.bool true) ∧ Below w0.heap.size w0 w' := by
  have hst := St.nil w0.heap.size ⟨[], []⟩ w0 (Nat.le_refl _)
  have hk5 : ((h.kind : Int) == 5) = false := by simpa using hk
  unfold nval
  go_enter Tryz.func20, Tryz.ntmps20
  go_upto_region 1 with ((first | ((with_reducible refine at_load ?_); first | refine X1 hst ?_ | refine XW hst ?_) | ((with_reducible refine at_store ?_); (first | refine Y1 hst ?_ | refine YW hst ?_); clear hst; intro w hst) | ((first | ((with_reducible refine at_alloc ?_); refine ZP hst ?_) | ((with_reducible refine at_box ?_); refine ZP hst ?_) | ((with_reducible refine at_bslice ?_); refine ZS hst ?_)); clear hst; (first | ((fail_if_success have := b0); intro b0 w hb0 hst) | ((fail_if_success have := b1); intro b1 w hb1 hst) | (intro b2 w hb2 hst)))))
  have ca0 := hst.cell (b := b0) (off := 0) (by (repeat' (first | exact List.Mem.head _ | apply List.Mem.tail)); done) rfl
  have ca1 := hst.cell (b := b0) (off := 1) (by (repeat' (first | exact List.Mem.head _ | apply List.Mem.tail)); done) rfl
  have ca2 := hst.cell (b := b0) (off := 2) (by (repeat' (first | exact List.Mem.head _ | apply List.Mem.tail)); done) rfl
  have ca3 := hst.cell (b := b0) (off := 3) (by (repeat' (first | exact List.Mem.head _ | apply List.Mem.tail)); done) rfl
  have ca4 := hst.cell (b := b0) (off := 4) (by (repeat' (first | exact List.Mem.head _ | apply List.Mem.tail)); done) rfl
  have ca5 := hst.cell (b := b0) (off := 5) (by (repeat' (first | exact List.Mem.head _ | apply List.Mem.tail)); done) rfl
  have ca6 := hst.cell (b := b0) (off := 6) (by (repeat' (first | exact List.Mem.head _ | apply List.Mem.tail)); done) rfl
  have ca7 := hst.cell (b := b0) (off := 7) (by (repeat' (first | exact List.Mem.head _ | apply List.Mem.tail)); done) rfl
  have ca8 := hst.cell (b := b0) (off := 8) (by (repeat' (first | exact List.Mem.head _ | apply List.Mem.tail)); done) rfl
  have ca9 := hst.cell (b := b0) (off := 9) (by (repeat' (first | exact List.Mem.head _ | apply List.Mem.tail)); done) rfl
  have ca10 := hst.cell (b := b0) (off := 10) (by (repeat' (first | exact List.Mem.head _ | apply List.Mem.tail)); done) rfl
  have ca11 := hst.cell (b := b0) (off := 11) (by (repeat' (first | exact List.Mem.head _ | apply List.Mem.tail)); done) rfl
  have ca12 := hst.cell (b := b0) (off := 12) (by (repeat' (first | exact List.Mem.head _ | apply List.Mem.tail)); done) rfl
  have ca13 := hst.cell (b := b0) (off := 13) (by (repeat' (first | exact List.Mem.head _ | apply List.Mem.tail)); done) rfl
  have ca14 := hst.cell (b := b0) (off := 14) (by (repeat' (first | exact List.Mem.head _ | apply List.Mem.tail)); done) rfl
  have ca15 := hst.cell (b := b0) (off := 15) (by (repeat' (first | exact List.Mem.head _ | apply List.Mem.tail)); done) rfl
  have ca16 := hst.cell (b := b0) (off := 16) (by (repeat' (first | exact List.Mem.head _ | apply List.Mem.tail)); done) rfl
  have ca17 := hst.cell (b := b0) (off := 17) (by (repeat' (first | exact List.Mem.head _ | apply List.Mem.tail)); done) rfl
  have cb0 := hst.cell (b := b1) (off := 0) (by (repeat' (first | exact List.Mem.head _ | apply List.Mem.tail)); done) rfl
  have cb1 := hst.cell (b := b1) (off := 1) (by (repeat' (first | exact List.Mem.head _ | apply List.Mem.tail)); done) rfl
  have cb2 := hst.cell (b := b1) (off := 2) (by (repeat' (first | exact List.Mem.head _ | apply List.Mem.tail)); done) rfl
  have cb3 := hst.cell (b := b1) (off := 3) (by (repeat' (first | exact List.Mem.head _ | apply List.Mem.tail)); done) rfl
  have cb4 := hst.cell (b := b1) (off := 4) (by (repeat' (first | exact List.Mem.head _ | apply List.Mem.tail)); done) rfl
  have cb5 := hst.cell (b := b1) (off := 5) (by (repeat' (first | exact List.Mem.head _ | apply List.Mem.tail)); done) rfl
  have cb6 := hst.cell (b := b1) (off := 6) (by (repeat' (first | exact List.Mem.head _ | apply List.Mem.tail)); done) rfl
  have cb7 := hst.cell (b := b1) (off := 7) (by (repeat' (first | exact List.Mem.head _ | apply List.Mem.tail)); done) rfl
  have cb8 := hst.cell (b := b1) (off := 8) (by (repeat' (first | exact List.Mem.head _ | apply List.Mem.tail)); done) rfl
  have cb9 := hst.cell (b := b1) (off := 9) (by (repeat' (first | exact List.Mem.head _ | apply List.Mem.tail)); done) rfl
  have cb10 := hst.cell (b := b1) (off := 10) (by (repeat' (first | exact List.Mem.head _ | apply List.Mem.tail)); done) rfl
  have cb11 := hst.cell (b := b1) (off := 11) (by (repeat' (first | exact List.Mem.head _ | apply List.Mem.tail)); done) rfl
  have cb12 := hst.cell (b := b1) (off := 12) (by (repeat' (first | exact List.Mem.head _ | apply List.Mem.tail)); done) rfl
  have cb13 := hst.cell (b := b1) (off := 13) (by (repeat' (first | exact List.Mem.head _ | apply List.Mem.tail)); done) rfl
  have cb14 := hst.cell (b := b1) (off := 14) (by (repeat' (first | exact List.Mem.head _ | apply List.Mem.tail)); done) rfl
  have cb15 := hst.cell (b := b1) (off := 15) (by (repeat' (first | exact List.Mem.head _ | apply List.Mem.tail)); done) rfl
  have cb16 := hst.cell (b := b1) (off := 16) (by (repeat' (first | exact List.Mem.head _ | apply List.Mem.tail)); done) rfl
  have cb17 := hst.cell (b := b1) (off := 17) (by (repeat' (first | exact List.Mem.head _ | apply List.Mem.tail)); done) rfl
  go_wp2_with ((first | ((with_reducible refine at_load ?_); first | refine X1 hst ?_ | refine XW hst ?_) | ((with_reducible refine at_store ?_); (first | refine Y1 hst ?_ | refine YW hst ?_); clear hst; intro w hst)))
  refine (sameTexts_nil _).mono ?_
  rintro e w1 ⟨rfl, rfl⟩
  go_wp2_with ((first | ((with_reducible refine at_load ?_); first | refine X1 hst ?_ | refine XW hst ?_) | ((with_reducible refine at_store ?_); (first | refine Y1 hst ?_ | refine YW hst ?_); clear hst; intro w hst)))
  refine (sameTexts_nil _).mono ?_
  rintro e w1 ⟨rfl, rfl⟩
  go_wp2_with ((first | ((with_reducible refine at_load ?_); first | refine X1 hst ?_ | refine XW hst ?_) | ((with_reducible refine at_store ?_); (first | refine Y1 hst ?_ | refine YW hst ?_); clear hst; intro w hst)))
  refine (sameTexts_nil _).mono ?_
  rintro e w1 ⟨rfl, rfl⟩
  go_wp2_with ((first | ((with_reducible refine at_load ?_); first | refine X1 hst ?_ | refine XW hst ?_) | ((with_reducible refine at_store ?_); (first | refine Y1 hst ?_ | refine YW hst ?_); clear hst; intro w hst)))
  refine (sameTexts_nil _).mono ?_
  rintro e w1 ⟨rfl, rfl⟩
  go_wp2_with ((first | ((with_reducible refine at_load ?_); first | refine X1 hst ?_ | refine XW hst ?_) | ((with_reducible refine at_store ?_); (first | refine Y1 hst ?_ | refine YW hst ?_); clear hst; intro w hst)))
  refine ret_tmp rfl rfl rfl ?_
  exact ⟨rfl, hst.kp.below⟩
end Go.Proofs.YtpajcfkldnbpfaaGreatDoor
namespace Go.Proofs.YtpajcfkldnbpfaaGreatDoor
open Go.RowKit
set_option maxRecDepth 100000 in
set_option maxHeartbeats 1000000 in
theorem sameNode_5 (ty co of : Int) (va vb te : ByteArray) (fl : Bool) (p p' : Option Addr) (n c n' c' : Nat) (w0 : World) : Calls Tryz.prog 20 #[nval ⟨5, ty, va, te, fl, co, of⟩ (.slice p n c), nval ⟨5, ty, vb, te, fl, co, of⟩ (.slice p' n' c')] w0 fun e w' => e = .returned (.bool true) ∧ Below w0.heap.size w0 w' := by
  have hst := St.nil w0.heap.size ⟨[], []⟩ w0 (Nat.le_refl _)
  unfold nval
  go_enter Tryz.func20, Tryz.ntmps20
  go_upto_region 1 with ((first | ((with_reducible refine at_load ?_); first | refine X1 hst ?_ | refine XW hst ?_) | ((with_reducible refine at_store ?_); (first | refine Y1 hst ?_ | refine YW hst ?_); clear hst; intro w hst) | ((first | ((with_reducible refine at_alloc ?_); refine ZP hst ?_) | ((with_reducible refine at_box ?_); refine ZP hst ?_) | ((with_reducible refine at_bslice ?_); refine ZS hst ?_)); clear hst; (first | ((fail_if_success have := b0); intro b0 w hb0 hst) | ((fail_if_success have := b1); intro b1 w hb1 hst) | (intro b2 w hb2 hst)))))
  have d0 := hst.cell (b := b1) (off := 0) (by (repeat' (first | exact List.Mem.head _ | apply List.Mem.tail)); done) rfl
  go_upto_region 3 with ((first | ((with_reducible refine at_load ?_); first | refine X1 hst ?_ | refine XW hst ?_) | ((with_reducible refine at_store ?_); (first | refine Y1 hst ?_ | refine YW hst ?_); clear hst; intro w hst)))
  clear d0
  have ca0 := hst.cell (b := b0) (off := 0) (by (repeat' (first | exact List.Mem.head _ | apply List.Mem.tail)); done) rfl
  have ca1 := hst.cell (b := b0) (off := 1) (by (repeat' (first | exact List.Mem.head _ | apply List.Mem.tail)); done) rfl
  have ca2 := hst.cell (b := b0) (off := 2) (by (repeat' (first | exact List.Mem.head _ | apply List.Mem.tail)); done) rfl
  have ca3 := hst.cell (b := b0) (off := 3) (by (repeat' (first | exact List.Mem.head _ | apply List.Mem.tail)); done) rfl
  have ca4 := hst.cell (b := b0) (off := 4) (by (repeat' (first | exact List.Mem.head _ | apply List.Mem.tail)); done) rfl
  have ca5 := hst.cell (b := b0) (off := 5) (by (repeat' (first | exact List.Mem.head _ | apply List.Mem.tail)); done) rfl
  have ca6 := hst.cell (b := b0) (off := 6) (by (repeat' (first | exact List.Mem.head _ | apply List.Mem.tail)); done) rfl
  have ca7 := hst.cell (b := b0) (off := 7) (by (repeat' (first | exact List.Mem.head _ | apply List.Mem.tail)); done) rfl
  have ca8 := hst.cell (b := b0) (off := 8) (by (repeat' (first | exact List.Mem.head _ | apply List.Mem.tail)); done) rfl
  have ca9 := hst.cell (b := b0) (off := 9) (by (repeat' (first | exact List.Mem.head _ | apply List.Mem.tail)); done) rfl
  have ca10 := hst.cell (b := b0) (off := 10) (by (repeat' (first | exact List.Mem.head _ | apply List.Mem.tail)); done) rfl
  have ca11 := hst.cell (b := b0) (off := 11) (by (repeat' (first | exact List.Mem.head _ | apply List.Mem.tail)); done) rfl
  have ca12 := hst.cell (b := b0) (off := 12) (by (repeat' (first | exact List.Mem.head _ | apply List.Mem.tail)); done) rfl
  have ca13 := hst.cell (b := b0) (off := 13) (by (repeat' (first | exact List.Mem.head _ | apply List.Mem.tail)); done) rfl
  have ca14 := hst.cell (b := b0) (off := 14) (by (repeat' (first | exact List.Mem.head _ | apply List.Mem.tail)); done) rfl
  have ca15 := hst.cell (b := b0) (off := 15) (by (repeat' (first | exact List.Mem.head _ | apply List.Mem.tail)); done) rfl
  have ca16 := hst.cell (b := b0) (off := 16) (by (repeat' (first | exact List.Mem.head _ | apply List.Mem.tail)); done) rfl
  have ca17 := hst.cell (b := b0) (off := 17) (by (repeat' (first | exact List.Mem.head _ | apply List.Mem.tail)); done) rfl
  have cb0 := hst.cell (b := b1) (off := 0) (by (repeat' (first | exact List.Mem.head _ | apply List.Mem.tail)); done) rfl
  have cb1 := hst.cell (b := b1) (off := 1) (by (repeat' (first | exact List.Mem.head _ | apply List.Mem.tail)); done) rfl
  have cb2 := hst.cell (b := b1) (off := 2) (by (repeat' (first | exact List.Mem.head _ | apply List.Mem.tail)); done) rfl
  have cb3 := hst.cell (b := b1) (off := 3) (by (repeat' (first | exact List.Mem.head _ | apply List.Mem.tail)); done) rfl
  have cb4 := hst.cell (b := b1) (off := 4) (by (repeat' (first | exact List.Mem.head _ | apply List.Mem.tail)); done) rfl
  have cb5 := hst.cell (b := b1) (off := 5) (by (repeat' (first | exact List.Mem.head _ | apply List.Mem.tail)); done) rfl
  have cb6 := hst.cell (b := b1) (off := 6) (by (repeat' (first | exact List.Mem.head _ | apply List.Mem.tail)); done) rfl
  have cb7 := hst.cell (b := b1) (off := 7) (by (repeat' (first | exact List.Mem.head _ | apply List.Mem.tail)); done) rfl
  have cb8 := hst.cell (b := b1) (off := 8) (by (repeat' (first | exact List.Mem.head _ | apply List.Mem.tail)); done) rfl
  have cb9 := hst.cell (b := b1) (off := 9) (by (repeat' (first | exact List.Mem.head _ | apply List.Mem.tail)); done) rfl
  have cb10 := hst.cell (b := b1) (off := 10) (by (repeat' (first | exact List.Mem.head _ | apply List.Mem.tail)); done) rfl
  have cb11 := hst.cell (b := b1) (off := 11) (by (repeat' (first | exact List.Mem.head _ | apply List.Mem.tail)); done) rfl
  have cb12 := hst.cell (b := b1) (off := 12) (by (repeat' (first | exact List.Mem.head _ | apply List.Mem.tail)); done) rfl
  have cb13 := hst.cell (b := b1) (off := 13) (by (repeat' (first | exact List.Mem.head _ | apply List.Mem.tail)); done) rfl
  have cb14 := hst.cell (b := b1) (off := 14) (by (repeat' (first | exact List.Mem.head _ | apply List.Mem.tail)); done) rfl
  have cb15 := hst.cell (b := b1) (off := 15) (by (repeat' (first | exact List.Mem.head _ | apply List.Mem.tail)); done) rfl
  have cb16 := hst.cell (b := b1) (off := 16) (by (repeat' (first | exact List.Mem.head _ | apply List.Mem.tail)); done) rfl
  have cb17 := hst.cell (b := b1) (off := 17) (by (repeat' (first | exact List.Mem.head _ | apply List.Mem.tail)); done) rfl
  go_wp2_with ((first | ((with_reducible refine at_load ?_); first | refine X1 hst ?_ | refine XW hst ?_) | ((with_reducible refine at_store ?_); (first | refine Y1 hst ?_ | refine YW hst ?_); clear hst; intro w hst)))
  refine (sameTexts_nil _).mono ?_
  rintro e w1 ⟨rfl, rfl⟩
  go_wp2_with ((first | ((with_reducible refine at_load ?_); first | refine X1 hst ?_ | refine XW hst ?_) | ((with_reducible refine at_store ?_); (first | refine Y1 hst ?_ | refine YW hst ?_); clear hst; intro w hst)))
  refine (sameTexts_nil _).mono ?_
  rintro e w1 ⟨rfl, rfl⟩
  go_wp2_with ((first | ((with_reducible refine at_load ?_); first | refine X1 hst ?_ | refine XW hst ?_) | ((with_reducible refine at_store ?_); (first | refine Y1 hst ?_ | refine YW hst ?_); clear hst; intro w hst)))
  refine (sameTexts_nil _).mono ?_
  rintro e w1 ⟨rfl, rfl⟩
  go_wp2_with ((first | ((with_reducible refine at_load ?_); first | refine X1 hst ?_ | refine XW hst ?_) | ((with_reducible refine at_store ?_); (first | refine Y1 hst ?_ | refine YW hst ?_); clear hst; intro w hst)))
  refine (sameTexts_nil _).mono ?_
  rintro e w1 ⟨rfl, rfl⟩
  go_wp2_with ((first | ((with_reducible refine at_load ?_); first | refine X1 hst ?_ | refine XW hst ?_) | ((with_reducible refine at_store ?_); (first | refine Y1 hst ?_ | refine YW hst ?_); clear hst; intro w hst)))
  refine ret_tmp rfl rfl rfl ?_
  exact ⟨rfl, hst.kp.below⟩
end Go.Proofs.YtpajcfkldnbpfaaGreatDoor
namespace Go.Proofs.YtpajcfkldnbpfaaGreatDoor
open Go.RowKit
def SeenAt (w : World) (c : Int) (h : NH) (v : Value) : Prop := ∃ (k : F NH) (b lo hi : Nat), v = nodeV h b ∧ NOK h k ∧ k.all NOK ∧ k.len ≤ 1000 ∧ AstN w c lo hi (.cons h k .nil) [b]
def SeenL (w : World) (c : Int) : List NH → List Value → Prop
  | [], vs => vs = []
  | h :: hs, vs => ∃ v vs', vs = v :: vs' ∧ SeenAt w c h v ∧ SeenL w c hs vs'
theorem SeenL.append {w : World} {c : Int} : ∀ {hs hs' : List NH} {vs vs' : List Value}, SeenL w c hs vs → SeenL w c hs' vs' → SeenL w c (hs ++ hs') (vs ++ vs')
  | [], _, _, _, rfl, h => h
  | _ :: _, _, _, _, ⟨v, vs, rfl, h1, h2⟩, h => ⟨v, vs ++ _, rfl, h1, SeenL.append h2 h⟩
theorem SeenL.length {w : World} {c : Int} : ∀ {hs : List NH} {vs : List Value}, SeenL w c hs vs → vs.length = hs.length
  | [], _, rfl => rfl
  | _ :: _, _, ⟨_, _, rfl, _, h⟩ => by simp [SeenL.length h]
theorem SeenL.get {w : World} {c : Int} : ∀ {hs : List NH} {vs : List Value} {i : Nat} {h : NH}, SeenL w c hs vs → hs[i]? = some h → ∃ v, vs[i]? = some v ∧ SeenAt w c h v
  | _ :: _, _, 0, _, ⟨v, _, rfl, h1, _⟩, e => by
    simp only [List.getElem?_cons_zero, Option.some.injEq] at e
    subst e
    exact ⟨v, rfl, h1⟩
  | _ :: _, _, i + 1, _, ⟨_, _, rfl, _, h2⟩, e => by
    simp only [List.getElem?_cons_succ] at e ⊢
    exact SeenL.get h2 e
theorem AstN.head {w : World} {c : Int} {h : NH} {k r : F NH} {lo hi : Nat} {bs : List Nat} (ha : AstN w c lo hi (.cons h k r) bs) : ∃ b bs' mid, bs = b :: bs' ∧ AstN w c lo mid (.cons h k .nil) [b] ∧ AstN w c mid hi r bs' := by
  obtain ⟨b, bs', ba, tk, pb, m1, mid, kb, rfl, h1, h2, h3, h4, h5, h6, h7⟩ := ha
  exact ⟨b, bs', mid, rfl, ⟨b, [], ba, tk, pb, m1, mid, kb, rfl, h1, h2, h3, h4, h5, h6, rfl, Nat.le_refl _⟩, h7⟩
theorem AstN.len {w : World} {c : Int} : ∀ {f : F NH} {lo hi : Nat} {bs : List Nat}, AstN w c lo hi f bs → bs.length = f.len := by
  intro f
  induction f with
  | nil => rintro lo hi bs ⟨rfl, _⟩; rfl
  | cons h k r ihk ihr =>
    rintro lo hi bs ⟨b, bs', ba, tk, pb, m1, md, kb, rfl, h1, h2, h3, h4, h5, h6, h7⟩
    simp [F.len, ihr h7]
theorem AstN.get {w : World} {c : Int} : ∀ {f : F NH} {lo hi : Nat} {bs : List Nat} {i : Nat} {x : NH} {kk : F NH}, AstN w c lo hi f bs → f.get i = some (x, kk) → ∃ b l1 h1, bs[i]? = some b ∧ (ifs f bs)[i]? = some (nodeV x b) ∧ AstN w c l1 h1 (.cons x kk .nil) [b] := by
  intro f
  induction f with
  | nil => intro lo hi bs i x kk _ h; cases h
  | cons h k r ihk ihr =>
    intro lo hi bs i x kk ha hg
    obtain ⟨b, bs', mid, rfl, h1, h2⟩ := AstN.head ha
    cases i with
    | zero =>
      simp only [F.get, Option.some.injEq, Prod.mk.injEq] at hg
      obtain ⟨rfl, rfl⟩ := hg
      exact ⟨b, lo, mid, rfl, rfl, h1⟩
    | succ i =>
      obtain ⟨b2, l2, h2', e1, e2, e3⟩ := ihr h2 hg
      exact ⟨b2, l2, h2', e1, e2, e3⟩
def ptrOf (P : Program) (T : Nat) : Bool := (match P.underlying T with | some (.pointer _) => true | _ => false) && (match P.info? T with | some j => (match j.zero with | some (.pointer none) => true | _ => false) | none => false)
theorem run_ta_miss {P : Program} {T t : Nat} (h : ptrOf P T = true) (hne : t ≠ T) (v : Value) (xT : TypeId) (w : World) : (Instr.typeAssert (.iface t v) xT T true).run P w = .ok (.tuple #[.pointer none, .bool false]) w := by
  unfold ptrOf at h
  simp only [Bool.and_eq_true] at h
  obtain ⟨h1, h2⟩ := h
  split at h1
  · rename_i e hu
    split at h2
    · rename_i j hj
      split at h2
      · rename_i hz
        simp [Instr.typeAssert, run_underlying hu, hne, zeroValue, typeInfo, hj, hz]
      · cases h2
    · cases h2
  · cases h1
theorem run_ta_hit {P : Program} {T : Nat} (h : ptrOf P T = true) (v : Value) (xT : TypeId) (w : World) : (Instr.typeAssert (.iface T v) xT T true).run P w = .ok (.tuple #[v, .bool true]) w := by
  unfold ptrOf at h
  simp only [Bool.and_eq_true] at h
  obtain ⟨h1, h2⟩ := h
  split at h1
  · rename_i e hu
    simp [Instr.typeAssert, run_underlying hu]
  · cases h1
theorem ptrs_all : ([162, 106, 113, 117, 125, 128, 109, 120, 123, 130, 156, 159, 101, 133, 138, 137, 145, 150, 154, 93].all fun t => ptrOf Tryz.prog t) = true := by kernel_rfl
theorem ptr_of {T : Nat} (h : T ∈ [162, 106, 113, 117, 125, 128, 109, 120, 123, 130, 156, 159, 101, 133, 138, 137, 145, 150, 154, 93]) : ptrOf Tryz.prog T = true := List.all_eq_true.1 ptrs_all T h
theorem ta_miss {t : Nat} (T : Nat) (h : T ∈ [162, 106, 113, 117, 125, 128, 109, 120, 123, 130, 156, 159, 101, 133, 138, 137, 145, 150, 154, 93]) (hne : t ≠ T) (v : Value) (xT : TypeId) (w : World) : (Instr.typeAssert (.iface t v) xT T true).run Tryz.prog w = .ok (.tuple #[.pointer none, .bool false]) w := run_ta_miss (ptr_of h) hne v xT w
theorem ta_hit (T : Nat) (h : T ∈ [162, 106, 113, 117, 125, 128, 109, 120, 123, 130, 156, 159, 101, 133, 138, 137, 145, 150, 154, 93]) (v : Value) (xT : TypeId) (w : World) : (Instr.typeAssert (.iface T v) xT T true).run Tryz.prog w = .ok (.tuple #[v, .bool true]) w := run_ta_hit (ptr_of h) v xT w
def VS (wb : World) (vb n : Nat) (xs : List Value) (w0 w : World) : Prop := ∃ (oid : Option Nat) (cap : Nat) (sp : List Value), St wb.heap.size [52, 55] w0 w [(some vb, [.slice (slP oid) n cap], 52), (oid, xs ++ sp, 55)] ∧ Gr 1 oid n cap xs sp
theorem VS.below {wb : World} {vb n : Nat} {xs : List Value} {w0 w : World} (h : VS wb vb n xs w0 w) : Below wb.heap.size w0 w := by
  obtain ⟨oid, cap, sp, h, -⟩ := h
  exact h.kp.below
theorem VS.here {wb : World} {vb n : Nat} {xs : List Value} {w0 w : World} (h : VS wb vb n xs w0 w) : VS wb vb n xs w w := by
  obtain ⟨oid, cap, sp, h, h2⟩ := h
  exact ⟨oid, cap, sp, h.rebase2 (List.Sublist.refl _) rfl, h2⟩
theorem VS.chain {wb : World} {vb n n' : Nat} {xs xs' : List Value} {w0 w1 w : World} (h : VS wb vb n xs w0 w1) (h2 : VS wb vb n' xs' w1 w) : VS wb vb n' xs' w0 w := by
  obtain ⟨oid, cap, sp, h, -⟩ := h
  obtain ⟨oid', cap', sp', h', h2⟩ := h2
  exact ⟨oid', cap', sp', h.chain h', h2⟩
theorem visit_vs (wb : World) (vb n t : Nat) (x : Value) (xs : List Value) (w0 : World) (h : VS wb vb n xs w0 w0) (hn : n ≤ 1000) : Calls Tryz.prog 221 #[.agg #[ptr vb], .iface t x] w0 fun e w' => e = .returned (.iface 83 (.agg #[ptr vb])) ∧ VS wb vb (n + 1) (xs ++ [.iface t x]) w0 w' := by
  obtain ⟨oid, cap, sp, h, h2⟩ := h
  refine (visit_any wb.heap.size vb n cap t x oid xs sp w0 h h2 hn).mono ?_
  rintro e w' ⟨oid', cap', sp', rfl, h3, h4⟩
  exact ⟨rfl, oid', cap', sp', h3, h4⟩
def WalkR (wb : World) (vb n : Nat) (xs : List Value) (f : List NH) (w0 : World) (e : Ending) (w' : World) : Prop := ∃ ys : List Value, SeenL wb 0 f ys ∧ e = .returned (.tuple #[]) ∧ VS wb vb (n + f.length) (xs ++ ys) w0 w'
def WalkC (wb : World) (h : NH) (k : F NH) (b : Nat) : Prop := ∀ (vb n : Nat) (xs : List Value) (w0 : World), Below wb.heap.size wb w0 → VS wb vb n xs w0 w0 → n + k.size + 1 ≤ 1000 → Calls Tryz.prog 30 #[.iface 83 (.agg #[ptr vb]), nodeV h b] w0 (WalkR wb vb n xs (h :: k.flat) w0)
theorem NodeAt.base {w : World} {h : NH} {k : F NH} {ba tk b : Nat} {kb : List Nat} (hn : NodeAt w h k ba tk b kb) (hk : h.kind ≠ 19) : ∃ t l, Blk w b t (ptr ba :: ptr tk :: l) := by
  rcases hn with ⟨g, h⟩ | ⟨g, v, h, h'⟩ | ⟨g, v, h, h'⟩ | ⟨g, f, h⟩ | ⟨g, f, h, h'⟩ | ⟨g, h', h⟩ | ⟨g, h⟩ | ⟨g, k0, h', h⟩ | ⟨g, p, c, h1, h2, h⟩ | ⟨g, v0, v1, h', h⟩ | ⟨g, p, c, pc, cc, h1, h2, h3, h4, h⟩ | ⟨g, v0, v1, h', h⟩ | ⟨g, v0, h', h⟩ | ⟨g, v0, h', h⟩
  all_goals first | exact ⟨_, _, h⟩ | exact absurd g hk
theorem F.size_take_le {H : Type} : ∀ (f : F H) (m : Nat), (f.take m).size ≤ f.size
  | .nil, 0 => Nat.le_refl _
  | .nil, _ + 1 => Nat.le_refl _
  | .cons _ _ _, 0 => Nat.zero_le _
  | .cons _ _ r, m + 1 => by
    have := F.size_take_le r m
    simp only [F.take, F.size]
    omega
end Go.Proofs.YtpajcfkldnbpfaaGreatDoor
namespace Go.Proofs.YtpajcfkldnbpfaaGreatDoor
open Go.RowKit
set_option maxRecDepth 100000 in
set_option maxHeartbeats 2000000 in
theorem walk_leaf (wb : World) (h : NH) (b lo hi : Nat) (hk : 2 ≤ h.kind ∧ h.kind ≤ 8) (ha : AstN wb 0 lo hi (.cons h .nil .nil) [b]) (hok : NOK h .nil) : WalkC wb h .nil b := by
  intro vb n xs w0 hW hvs hn
  have HS : SeenAt wb 0 h (nodeV h b) := ⟨.nil, b, lo, hi, rfl, hok, trivial, Nat.zero_le _, ha⟩
  obtain ⟨b', bs', ba, tk, pb, m1, mid, kb, e, -, -, htok, hba, hnode, -, -⟩ := ha
  cases e
  obtain ⟨t, l, hblk⟩ := hnode.base (by omega)
  have HB := Lib.hid (And.intro hblk (And.intro hba HS))
  clear hok hnode htok hblk hba HS
  simp only [F.size] at hn
  obtain ⟨kd, ty, va, te, fl, co, of⟩ := h
  simp only at hk
  have hkd : kd = 2 ∨ kd = 3 ∨ kd = 4 ∨ kd = 5 ∨ kd = 6 ∨ kd = 7 ∨ kd = 8 := by omega
  clear hk
  unfold nodeV at *
  rcases hkd with rfl | rfl | rfl | rfl | rfl | rfl | rfl
  · (simp only [tyOf]; as_aux_lemma => ((have ta162 := fun v xT w => ta_miss (t := 106) 162 (by decide) (by decide) v xT w; have ta106 := fun v xT w => ta_hit 106 (by decide) v xT w); go_enter Tryz.func30, Tryz.ntmps30; go_wp2_with fail; refine (visit_vs wb vb n _ _ xs _ hvs (by omega)).mono ?_; rintro e w1 ⟨rfl, hvs1⟩; have hc0 := (HB.out.1.below (hW.trans hvs1.below)).cell (off := 0) rfl; go_wp2_with fail; refine (walkComment_any _ ba _ (HB.out.2.1.below (hW.trans hvs1.below))).mono ?_; rintro e w2 ⟨rfl, rfl⟩; go_wp2_with fail; exact ret_none rfl rfl ⟨[_], ⟨_, _, rfl, HB.out.2.2, rfl⟩, rfl, hvs1⟩))
  · (simp only [tyOf]; as_aux_lemma => ((have ta162 := fun v xT w => ta_miss (t := 109) 162 (by decide) (by decide) v xT w; have ta106 := fun v xT w => ta_miss (t := 109) 106 (by decide) (by decide) v xT w; have ta113 := fun v xT w => ta_miss (t := 109) 113 (by decide) (by decide) v xT w; have ta117 := fun v xT w => ta_miss (t := 109) 117 (by decide) (by decide) v xT w; have ta125 := fun v xT w => ta_miss (t := 109) 125 (by decide) (by decide) v xT w; have ta128 := fun v xT w => ta_miss (t := 109) 128 (by decide) (by decide) v xT w; have ta109 := fun v xT w => ta_hit 109 (by decide) v xT w); go_enter Tryz.func30, Tryz.ntmps30; go_wp2_with fail; refine (visit_vs wb vb n _ _ xs _ hvs (by omega)).mono ?_; rintro e w1 ⟨rfl, hvs1⟩; have hc0 := (HB.out.1.below (hW.trans hvs1.below)).cell (off := 0) rfl; go_wp2_with fail; refine (walkComment_any _ ba _ (HB.out.2.1.below (hW.trans hvs1.below))).mono ?_; rintro e w2 ⟨rfl, rfl⟩; go_wp2_with fail; exact ret_none rfl rfl ⟨[_], ⟨_, _, rfl, HB.out.2.2, rfl⟩, rfl, hvs1⟩))
  · (simp only [tyOf]; as_aux_lemma => ((have ta162 := fun v xT w => ta_miss (t := 113) 162 (by decide) (by decide) v xT w; have ta106 := fun v xT w => ta_miss (t := 113) 106 (by decide) (by decide) v xT w; have ta113 := fun v xT w => ta_hit 113 (by decide) v xT w); go_enter Tryz.func30, Tryz.ntmps30; go_wp2_with fail; refine (visit_vs wb vb n _ _ xs _ hvs (by omega)).mono ?_; rintro e w1 ⟨rfl, hvs1⟩; have hc0 := (HB.out.1.below (hW.trans hvs1.below)).cell (off := 0) rfl; go_wp2_with fail; refine (walkComment_any _ ba _ (HB.out.2.1.below (hW.trans hvs1.below))).mono ?_; rintro e w2 ⟨rfl, rfl⟩; go_wp2_with fail; exact ret_none rfl rfl ⟨[_], ⟨_, _, rfl, HB.out.2.2, rfl⟩, rfl, hvs1⟩))
  · (simp only [tyOf]; as_aux_lemma => ((have ta162 := fun v xT w => ta_miss (t := 117) 162 (by decide) (by decide) v xT w; have ta106 := fun v xT w => ta_miss (t := 117) 106 (by decide) (by decide) v xT w; have ta113 := fun v xT w => ta_miss (t := 117) 113 (by decide) (by decide) v xT w; have ta117 := fun v xT w => ta_hit 117 (by decide) v xT w); go_enter Tryz.func30, Tryz.ntmps30; go_wp2_with fail; refine (visit_vs wb vb n _ _ xs _ hvs (by omega)).mono ?_; rintro e w1 ⟨rfl, hvs1⟩; have hc0 := (HB.out.1.below (hW.trans hvs1.below)).cell (off := 0) rfl; go_wp2_with fail; refine (walkComment_any _ ba _ (HB.out.2.1.below (hW.trans hvs1.below))).mono ?_; rintro e w2 ⟨rfl, rfl⟩; go_wp2_with fail; exact ret_none rfl rfl ⟨[_], ⟨_, _, rfl, HB.out.2.2, rfl⟩, rfl, hvs1⟩))
  · (simp only [tyOf]; as_aux_lemma => ((have ta162 := fun v xT w => ta_miss (t := 120) 162 (by decide) (by decide) v xT w; have ta106 := fun v xT w => ta_miss (t := 120) 106 (by decide) (by decide) v xT w; have ta113 := fun v xT w => ta_miss (t := 120) 113 (by decide) (by decide) v xT w; have ta117 := fun v xT w => ta_miss (t := 120) 117 (by decide) (by decide) v xT w; have ta125 := fun v xT w => ta_miss (t := 120) 125 (by decide) (by decide) v xT w; have ta128 := fun v xT w => ta_miss (t := 120) 128 (by decide) (by decide) v xT w; have ta109 := fun v xT w => ta_miss (t := 120) 109 (by decide) (by decide) v xT w; have ta120 := fun v xT w => ta_hit 120 (by decide) v xT w); go_enter Tryz.func30, Tryz.ntmps30; go_wp2_with fail; refine (visit_vs wb vb n _ _ xs _ hvs (by omega)).mono ?_; rintro e w1 ⟨rfl, hvs1⟩; have hc0 := (HB.out.1.below (hW.trans hvs1.below)).cell (off := 0) rfl; go_wp2_with fail; refine (walkComment_any _ ba _ (HB.out.2.1.below (hW.trans hvs1.below))).mono ?_; rintro e w2 ⟨rfl, rfl⟩; go_wp2_with fail; exact ret_none rfl rfl ⟨[_], ⟨_, _, rfl, HB.out.2.2, rfl⟩, rfl, hvs1⟩))
  · (simp only [tyOf]; as_aux_lemma => ((have ta162 := fun v xT w => ta_miss (t := 123) 162 (by decide) (by decide) v xT w; have ta106 := fun v xT w => ta_miss (t := 123) 106 (by decide) (by decide) v xT w; have ta113 := fun v xT w => ta_miss (t := 123) 113 (by decide) (by decide) v xT w; have ta117 := fun v xT w => ta_miss (t := 123) 117 (by decide) (by decide) v xT w; have ta125 := fun v xT w => ta_miss (t := 123) 125 (by decide) (by decide) v xT w; have ta128 := fun v xT w => ta_miss (t := 123) 128 (by decide) (by decide) v xT w; have ta109 := fun v xT w => ta_miss (t := 123) 109 (by decide) (by decide) v xT w; have ta120 := fun v xT w => ta_miss (t := 123) 120 (by decide) (by decide) v xT w; have ta123 := fun v xT w => ta_hit 123 (by decide) v xT w); go_enter Tryz.func30, Tryz.ntmps30; go_wp2_with fail; refine (visit_vs wb vb n _ _ xs _ hvs (by omega)).mono ?_; rintro e w1 ⟨rfl, hvs1⟩; have hc0 := (HB.out.1.below (hW.trans hvs1.below)).cell (off := 0) rfl; go_wp2_with fail; refine (walkComment_any _ ba _ (HB.out.2.1.below (hW.trans hvs1.below))).mono ?_; rintro e w2 ⟨rfl, rfl⟩; go_wp2_with fail; exact ret_none rfl rfl ⟨[_], ⟨_, _, rfl, HB.out.2.2, rfl⟩, rfl, hvs1⟩))
  · (simp only [tyOf]; as_aux_lemma => ((have ta162 := fun v xT w => ta_miss (t := 125) 162 (by decide) (by decide) v xT w; have ta106 := fun v xT w => ta_miss (t := 125) 106 (by decide) (by decide) v xT w; have ta113 := fun v xT w => ta_miss (t := 125) 113 (by decide) (by decide) v xT w; have ta117 := fun v xT w => ta_miss (t := 125) 117 (by decide) (by decide) v xT w; have ta125 := fun v xT w => ta_hit 125 (by decide) v xT w); go_enter Tryz.func30, Tryz.ntmps30; go_wp2_with fail; refine (visit_vs wb vb n _ _ xs _ hvs (by omega)).mono ?_; rintro e w1 ⟨rfl, hvs1⟩; have hc0 := (HB.out.1.below (hW.trans hvs1.below)).cell (off := 0) rfl; go_wp2_with fail; refine (walkComment_any _ ba _ (HB.out.2.1.below (hW.trans hvs1.below))).mono ?_; rintro e w2 ⟨rfl, rfl⟩; go_wp2_with fail; exact ret_none rfl rfl ⟨[_], ⟨_, _, rfl, HB.out.2.2, rfl⟩, rfl, hvs1⟩))
end Go.Proofs.YtpajcfkldnbpfaaGreatDoor
