/- The nodes of scalars. Nodes in memory, as they are made: what stays. The nodes of trees, given those of collections. -/
import Derived.Test.YtpajcfkldnbpfaaGreatDoorV09
set_option linter.unusedSimpArgs false
set_option linter.unusedVariables false
namespace Go.Proofs.YtpajcfkldnbpfaaGreatDoor
open Go.RowKit
def NGood (h : TH) (k : F TH) (h' : NH) (k' : F NH) : Prop := (NoPlus h k → k.all NoPlus → NOK h' k' ∧ k'.all NOK) ∧ (h.kind = 1 → h.a.size = 0 → h.t.size = 0 → h.st ≤ 3 → k' = .nil ∧ 2 ≤ h'.kind ∧ h'.kind ≤ 8)
def NodeR (x : Int) (h : TH) (k : F TH) (B mb : Nat) (col : Int) (w : World) (e : Ending) (w' : World) : Prop :=
  ∃ (h' : NH) (k' : F NH) (p' : Option Addr) (c' : Nat) (col' : Int), e = .returned (nval h' (.slice p' k'.len c')) ∧ Sl NS (NewN w.heap.size) w' p' k' ∧ k'.len ≤ c' ∧ St B [70] w w' [(some mb, [.int .i64 1, .int .i64 col'], 70)] ∧ (k'.size : Int) + 1 = col' - col ∧ (k'.size : Int) ≤ 6 * k.size + x ∧ NGood h k h' k'
theorem NodeR.leaf {h : TH} {B mb : Nat} {col c kind typ : Int} {value text : ByteArray} {w w' : World} (hb : St B [70] w w' [(some mb, [.int .i64 1, .int .i64 (col + 1)], 70)]) (hc : 1 ≤ c ∧ c ≤ 200) (h2 : 2 ≤ kind) (h8 : kind ≤ 8) (hl : (h.kind = 1 → h.st = 1 → h.v.data.toList.head? ≠ some 43) → LeafN ⟨kind, typ, value, text, false, c, c⟩) :
    NodeR 1 h .nil B mb col w (.returned (.agg #[.int .i64 kind, .int .i64 typ, .string value, .string text, .string text, .string ByteArray.empty, .bool false, .bool false, .bool false, .int .i64 1, .int .i64 c, .int .i64 c, .int .i64 0, .int .i64 0, .slice none 0 0, .slice none 0 0, .slice none 0 0, .slice none 0 0, .slice none 0 0])) w' :=
  ⟨⟨kind, typ, value, text, false, c, c⟩, .nil, none, 0, col + 1, rfl, .inl rfl, Nat.le_refl _, hb, by simp [F.size]; omega, by simp [F.size], fun h1 _ => ⟨⟨hc.1, hc.2, rfl, .inl ⟨rfl, hl h1, rfl⟩⟩, trivial⟩, fun _ _ _ _ => ⟨rfl, h2, h8⟩⟩
theorem NodeR.lit {h : TH} {B mb b3 : Nat} {col c ca typ : Int} {text : ByteArray} {w w' : World} (_hk : h.kind = 1) (hs : 3 < h.st) (hm : w'.heap[b3]? = some (.cells (List.toArray [.int .i64 8, .int .i64 31, .string h.v, .string h.v, .string h.v, .string ByteArray.empty, .bool false, .bool false, .bool false, .int .i64 1, .int .i64 ca, .int .i64 ca, .int .i64 0, .int .i64 0, .slice none 0 0, .slice none 0 0, .slice none 0 0, .slice none 0 0, .slice none 0 0]) 31 (0, 0))) (h3 : w.heap.size ≤ b3) (hc : 1 ≤ c ∧ c ≤ 200) (hca : 1 ≤ ca ∧ ca ≤ 200)
    (hb : St B [70] w w' [(some mb, [.int .i64 1, .int .i64 (col + 1 + 1)], 70)]) :
    NodeR 1 h .nil B mb col w (.returned (.agg (List.toArray [.int .i64 10, .int .i64 typ, .string h.v, .string text, .string text, .string ByteArray.empty, .bool false, .bool false, .bool false, .int .i64 1, .int .i64 c, .int .i64 c, .int .i64 0, .int .i64 0, .slice none 0 0, .slice none 0 0, .slice none 0 0, .slice none 0 0, .slice (some ⟨b3, 0, none⟩) 1 1]))) w' :=
  ⟨⟨10, typ, h.v, text, false, c, c⟩, .cons ⟨8, 31, h.v, h.v, false, ca, ca⟩ .nil .nil, some ⟨b3, 0, none⟩, 1, col + 1 + 1, rfl, .inr ⟨b3, 0, _, _, _, rfl, hm, ⟨h3, rfl⟩, none, 0, [], rfl, Nat.le_refl _, .inl rfl, trivial⟩, Nat.le_refl _, hb, by simp [F.size]; omega, by simp [F.size],
   fun _ _ => ⟨⟨hc.1, hc.2, rfl, .inr (.inl ⟨rfl, rfl, _, rfl, rfl, rfl⟩)⟩, ⟨⟨hca.1, hca.2, rfl, .inl ⟨rfl, .inl rfl, rfl⟩⟩, trivial, trivial⟩⟩, fun _ _ _ h => absurd h (by omega)⟩
set_option maxRecDepth 100000 in
set_option maxHeartbeats 1000000 in
theorem scalar_n (h : TH) (p : Option Addr) (n c : Nat) (B mb : Nat) (col : Int) (w0 : World) (hst : St B [70] w0 w0 [(some mb, [.int .i64 1, .int .i64 col], 70)]) (hc1 : 1 ≤ col) (hc2 : col ≤ 900) (hk : h.kind = 1) (h1 : 1 ≤ h.st) (h5 : h.st ≤ 5) (hv : h.v.size ≤ 40) :
    Calls Tryz.prog 51 #[.pointer (some ⟨mb, 0, none⟩), tval h (.slice p n c)] w0 (NodeR 1 h .nil B mb col w0) := by
  unfold tval
  have HK := Lib.hid (And.intro hk (And.intro hv (And.intro h1 h5)))
  clear hk hv h1 h5
  go_enter Tryz.func51, Tryz.ntmps51
  go_upto_region 1 with ((first | ((with_reducible refine at_load ?_); first | refine X1 hst ?_ | refine XW hst ?_) | ((with_reducible refine at_store ?_); (first | refine Y1 hst ?_ | refine YW hst ?_); clear hst; intro w hst) | ((first | ((with_reducible refine at_alloc ?_); refine ZP hst ?_) | ((with_reducible refine at_box ?_); refine ZP hst ?_) | ((with_reducible refine at_bslice ?_); refine ZS hst ?_)); clear hst; (first | ((fail_if_success have := b0); intro b0 w hb0 hst) | ((fail_if_success have := b1); intro b1 w hb1 hst) | ((fail_if_success have := b2); intro b2 w hb2 hst) | ((fail_if_success have := b3); intro b3 w hb3 hst) | (intro b4 w hb4 hst)))))
  go_frame
  go_cut [5] (fun y wx => ∃ (b2 : Nat) (cc : Int), y = .pointer (some ⟨b2, 0, none⟩) ∧ Hid (1 ≤ cc ∧ cc ≤ 200) ∧ St B [70] w0 wx [(some b2, [.int .i64 8, .int .i64 31, .string h.v, .string h.v, .string h.v, .string ByteArray.empty, .bool false, .bool false, .bool false, .int .i64 1, .int .i64 cc, .int .i64 cc, .int .i64 0, .int .i64 0, .slice none 0 0, .slice none 0 0, .slice none 0 0, .slice none 0 0, .slice none 0 0], 31), (some b1, [.int .i64 0, .int .i64 0, .string ByteArray.empty, .string ByteArray.empty, .string ByteArray.empty, .string ByteArray.empty, .bool false, .bool false, .bool false, .int .i64 0, .int .i64 0, .int .i64 0, .int .i64 0, .int .i64 0, .slice none 0 0, .slice none 0 0, .slice none 0 0, .slice none 0 0, .slice none 0 0], 31), (some b0, [.int .i64 h.kind, .string h.v, .string h.a, .string h.t, .int .i64 h.st, .slice p n c], 24), (some mb, [.int .i64 1, .int .i64 (col + 1)], 70)])
  case first =>
    refine wp_plan (fun w => St B [70] w0 w [(some b0, [.int .i64 h.kind, .string h.v, .string h.a, .string h.t, .int .i64 h.st, .slice p n c], 24)]) [0, 1, 2] (.q 0 (.q 1 (.q 2 (.e2 3 true (.e2 4 true (.e 5 true (.e 6 false (.fin))) 5 true (.e 4 true (.e 6 false (.fin)))) 5 true (.e 3 true (.e 4 true (.e 6 false (.fin)))))))) mixed (by kernel_rfl) (by kernel_rfl) (by kernel_rfl) (fun d v c a w h => by cases d <;> exact h) (hst.drew.sub (.cons _ (.cons_cons _ (List.nil_sublist _)))) ?_
    replace hst := hst.drew
    repeat ((refine AQ ?_); first | (refine Q1 ?_; go_frame) | (refine QW ?_; go_frame) | (refine QV ?_; go_frame))
    refine at_e2 (by simp only [List.getElem?_toArray, List.getElem?_cons_succ, List.getElem?_cons_zero]; rfl) rfl (by simp only [List.getElem?_toArray, List.getElem?_cons_succ, List.getElem?_cons_zero]; rfl) rfl ?_ ?_
    · (refine e_call (by go_simp <;> first | rfl | exact ⟨rfl, rfl⟩) (place_any B _ mb _ (hst.rebase (L' := [_]) (.cons _ (.cons _ (List.Sublist.refl _))) rfl) (by omega) (by omega)) ?_; rintro e w1 ⟨cc, hc1, hc2, rfl, h2⟩; have HC := Lib.hid (And.intro hc1 hc2); replace hst := St.after (L1 := [_, _]) hst h2 rfl rfl (fun _ h => h); simp only [List.cons_append, List.nil_append] at hst; clear hc1 hc2 h2)
      refine ⟨_, rfl, fun _ => hst.sub (.cons _ (.cons_cons _ (List.nil_sublist _))), ?_⟩
      go_frame
      refine at_e2 (by simp only [List.getElem?_toArray, List.getElem?_cons_succ, List.getElem?_cons_zero]; rfl) rfl (by simp only [List.getElem?_toArray, List.getElem?_cons_succ, List.getElem?_cons_zero]; rfl) rfl ?_ ?_
      · (refine e_call (by go_simp <;> first | rfl | exact ⟨rfl, rfl⟩) (wrNode_any _ 8 31 cc h.v h.v (.inl ⟨.inl rfl, rfl⟩)) ?_; rintro e w1 ⟨rfl, hb⟩; replace hst := hst.below hb; clear hb; unfold nval)
        refine ⟨_, rfl, fun _ => hst.sub (.cons _ (.cons_cons _ (List.nil_sublist _))), ?_⟩
        go_frame
        refine at_e (by simp only [List.getElem?_toArray, List.getElem?_cons_succ, List.getElem?_cons_zero]; rfl) rfl ?_
        refine p_new hst (by go_simp; rfl) ?_
        clear hst
        intro b2 w hb2 hst
        refine ⟨fun _ => hst.sub (.cons _ (.cons _ (.cons_cons _ (List.nil_sublist _)))), ?_⟩
        go_frame
        refine at_e (by simp only [List.getElem?_toArray, List.getElem?_cons_succ, List.getElem?_cons_zero]; rfl) rfl ?_
        (refine EW hst ?_; clear hst; intro w hst; refine ⟨?_, ?_⟩; rotate_left; go_frame)
        · (unfold wpP; go_wp2_with fail; go_meet; case rel => exact ⟨b2, cc, rfl, HC, hst⟩)
        · intro h; cases h
      · refine p_new hst (by go_simp; rfl) ?_
        clear hst
        intro b2 w hb2 hst
        refine ⟨fun _ => hst.sub (.cons _ (.cons _ (.cons_cons _ (List.nil_sublist _)))), ?_⟩
        go_frame
        refine at_e (by simp only [List.getElem?_toArray, List.getElem?_cons_succ, List.getElem?_cons_zero]; rfl) rfl ?_
        (refine e_call (by go_simp <;> first | rfl | exact ⟨rfl, rfl⟩) (wrNode_any _ 8 31 cc h.v h.v (.inl ⟨.inl rfl, rfl⟩)) ?_; rintro e w1 ⟨rfl, hb⟩; replace hst := hst.below hb; clear hb; unfold nval)
        refine ⟨_, rfl, fun _ => hst.sub (.cons _ (.cons _ (.cons_cons _ (List.nil_sublist _)))), ?_⟩
        go_frame
        refine at_e (by simp only [List.getElem?_toArray, List.getElem?_cons_succ, List.getElem?_cons_zero]; rfl) rfl ?_
        (refine EW hst ?_; clear hst; intro w hst; refine ⟨?_, ?_⟩; rotate_left; go_frame)
        · (unfold wpP; go_wp2_with fail; go_meet; case rel => exact ⟨b2, cc, rfl, HC, hst⟩)
        · intro h; cases h
    · refine p_new hst (by go_simp; rfl) ?_
      clear hst
      intro b2 w hb2 hst
      refine ⟨fun _ => hst.sub (.cons _ (.cons _ (.cons_cons _ (List.nil_sublist _)))), ?_⟩
      go_frame
      refine at_e (by simp only [List.getElem?_toArray, List.getElem?_cons_succ, List.getElem?_cons_zero]; rfl) rfl ?_
      (refine e_call (by go_simp <;> first | rfl | exact ⟨rfl, rfl⟩) (place_any B _ mb _ (hst.rebase (L' := [_]) (.cons _ (.cons _ (.cons _ (List.Sublist.refl _)))) rfl) (by omega) (by omega)) ?_; rintro e w1 ⟨cc, hc1, hc2, rfl, h2⟩; have HC := Lib.hid (And.intro hc1 hc2); replace hst := St.after (L1 := [_, _, _]) hst h2 rfl rfl (fun _ h => h); simp only [List.cons_append, List.nil_append] at hst; clear hc1 hc2 h2)
      refine ⟨_, rfl, fun _ => hst.sub (.cons _ (.cons _ (.cons_cons _ (List.nil_sublist _)))), ?_⟩
      go_frame
      refine at_e (by simp only [List.getElem?_toArray, List.getElem?_cons_succ, List.getElem?_cons_zero]; rfl) rfl ?_
      (refine e_call (by go_simp <;> first | rfl | exact ⟨rfl, rfl⟩) (wrNode_any _ 8 31 cc h.v h.v (.inl ⟨.inl rfl, rfl⟩)) ?_; rintro e w1 ⟨rfl, hb⟩; replace hst := hst.below hb; clear hb; unfold nval)
      refine ⟨_, rfl, fun _ => hst.sub (.cons _ (.cons _ (.cons_cons _ (List.nil_sublist _)))), ?_⟩
      go_frame
      refine at_e (by simp only [List.getElem?_toArray, List.getElem?_cons_succ, List.getElem?_cons_zero]; rfl) rfl ?_
      (refine EW hst ?_; clear hst; intro w hst; refine ⟨?_, ?_⟩; rotate_left; go_frame)
      · (unfold wpP; go_wp2_with fail; go_meet; case rel => exact ⟨b2, cc, rfl, HC, hst⟩)
      · intro h; cases h
  case rest =>
  clear hst
  obtain ⟨b2, cc, rfl, HC, hst⟩ := hcut
  have c4 := hst.cell (b := b0) (off := 4) (by (repeat' (first | exact List.Mem.head _ | apply List.Mem.tail)); done) rfl
  have hs : h.st = 1 ∨ h.st = 2 ∨ h.st = 3 ∨ h.st = 4 ∨ h.st = 5 := by have := HK.out; omega
  rcases hs with hs | hs | hs | hs | hs
  · rw [hs] at hst c4
    go_wp2_with ((first | ((with_reducible refine at_load ?_); first | refine X1 hst ?_ | refine XW hst ?_) | ((with_reducible refine at_store ?_); (first | refine Y1 hst ?_ | refine YW hst ?_); clear hst; intro w hst)))
    refine (plain_any _ h.v cc _ (by have := HK.out.2.1; simp only [maxLen]; omega)).mono ?_
    rintro e w1 ⟨h', rfl, hcol, hoff, hfl, h2, h8, hl, hb⟩
    obtain ⟨kd, ty, va, te, fl, co, of⟩ := h'
    simp only at hcol hoff hfl h2 h8
    subst hcol hoff hfl
    replace hst := hst.below hb
    unfold nval
    go_wp2_with ((first | ((with_reducible refine at_load ?_); first | refine X1 hst ?_ | refine XW hst ?_) | ((with_reducible refine at_store ?_); (first | refine Y1 hst ?_ | refine YW hst ?_); clear hst; intro w hst)))
    refine ret_cell hst rfl rfl (by (repeat' (first | exact List.Mem.head _ | apply List.Mem.tail)); done) (by exact agg_of rfl rfl) rfl ?_
    exact NodeR.leaf (hst.sub (.cons _ (.cons _ (.cons _ (List.Sublist.refl _))))) HC.out h2 h8 (fun h1 => hl (h1 HK.out.1 hs))
  · rw [hs] at hst c4
    go_wp2_with ((first | ((with_reducible refine at_load ?_); first | refine X1 hst ?_ | refine XW hst ?_) | ((with_reducible refine at_store ?_); (first | refine Y1 hst ?_ | refine YW hst ?_); clear hst; intro w hst)))
    refine ret_cell hst rfl rfl (by (repeat' (first | exact List.Mem.head _ | apply List.Mem.tail)); done) (by exact agg_of rfl rfl) rfl ?_
    exact NodeR.leaf (hst.sub (.cons _ (.cons _ (.cons _ (List.Sublist.refl _))))) HC.out (by decide) (by decide) (fun _ => .inl rfl)
  · rw [hs] at hst c4
    go_wp2_with ((first | ((with_reducible refine at_load ?_); first | refine X1 hst ?_ | refine XW hst ?_) | ((with_reducible refine at_store ?_); (first | refine Y1 hst ?_ | refine YW hst ?_); clear hst; intro w hst)))
    refine ret_cell hst rfl rfl (by (repeat' (first | exact List.Mem.head _ | apply List.Mem.tail)); done) (by exact agg_of rfl rfl) rfl ?_
    exact NodeR.leaf (hst.sub (.cons _ (.cons _ (.cons _ (List.Sublist.refl _))))) HC.out (by decide) (by decide) (fun _ => .inl rfl)
  · rw [hs] at hst c4
    go_upto_region 8 with ((first | ((with_reducible refine at_load ?_); first | refine X1 hst ?_ | refine XW hst ?_) | ((with_reducible refine at_store ?_); (first | refine Y1 hst ?_ | refine YW hst ?_); clear hst; intro w hst)))
    refine wp_plan (fun w => St B [70] w0 w [(some b0, [.int .i64 h.kind, .string h.v, .string h.a, .string h.t, .int .i64 4, .slice p n c], 24)]) [0, 1, 2, 3, 5, 7, 9] (.q 0 (.q 1 (.q 2 (.q 3 (.e 4 true (.q 5 (.e 6 true (.q 7 (.e 8 true (.q 9 (.e 10 false (.fin)))))))))))) mixed (by kernel_rfl) (by kernel_rfl) (by kernel_rfl) (fun d v c a w h => by cases d <;> exact h) (hst.drew.sub (.cons _ (.cons _ (.cons_cons _ (List.nil_sublist _))))) ?_
    replace hst := hst.drew
    repeat ((refine AQ ?_); first | (refine Q1 ?_; go_frame) | (refine QW ?_; go_frame) | (refine QV ?_; go_frame))
    refine at_e (by simp only [List.getElem?_toArray, List.getElem?_cons_succ, List.getElem?_cons_zero]; rfl) rfl ?_
    (refine E1 hst ?_; clear hst; intro w hst; refine ⟨?_, ?_⟩; rotate_left; go_frame)
    · repeat ((refine AQ ?_); first | (refine Q1 ?_; go_frame) | (refine QW ?_; go_frame) | (refine QV ?_; go_frame))
      refine at_e (by simp only [List.getElem?_toArray, List.getElem?_cons_succ, List.getElem?_cons_zero]; rfl) rfl ?_
      (refine E1 hst ?_; clear hst; intro w hst; refine ⟨?_, ?_⟩; rotate_left; go_frame)
      · repeat ((refine AQ ?_); first | (refine Q1 ?_; go_frame) | (refine QW ?_; go_frame) | (refine QV ?_; go_frame))
        refine at_e (by simp only [List.getElem?_toArray, List.getElem?_cons_succ, List.getElem?_cons_zero]; rfl) rfl ?_
        (refine E1 hst ?_; clear hst; intro w hst; refine ⟨?_, ?_⟩; rotate_left; go_frame)
        · repeat ((refine AQ ?_); first | (refine Q1 ?_; go_frame) | (refine QW ?_; go_frame) | (refine QV ?_; go_frame))
          refine at_e (by simp only [List.getElem?_toArray, List.getElem?_cons_succ, List.getElem?_cons_zero]; rfl) rfl ?_
          (refine E1 hst ?_; clear hst; intro w hst; refine ⟨?_, ?_⟩; rotate_left; go_frame)
          · unfold wpP
            clear c4
            go_upto_region 11 with ((first | ((with_reducible refine at_load ?_); first | refine X1 hst ?_ | refine XW hst ?_) | ((with_reducible refine at_store ?_); (first | refine Y1 hst ?_ | refine YW hst ?_); clear hst; intro w hst)))
            refine wp_plan (fun w => St B [70] w0 w [(some b0, [.int .i64 h.kind, .string h.v, .string h.a, .string h.t, .int .i64 4, .slice p n c], 24)]) [0, 1, 2] (.q 0 (.q 1 (.q 2 (.e 3 true (.e 4 true (.e 5 true (.e 6 false (.e 7 false (.fin))))))))) mixed (by kernel_rfl) (by kernel_rfl) (by kernel_rfl) (fun d v c a w h => by cases d <;> exact h) (hst.drew.sub (.cons _ (.cons _ (.cons_cons _ (List.nil_sublist _))))) ?_
            replace hst := hst.drew
            repeat ((refine AQ ?_); first | (refine Q1 ?_; go_frame) | (refine QW ?_; go_frame) | (refine QV ?_; go_frame))
            refine at_e (by simp only [List.getElem?_toArray, List.getElem?_cons_succ, List.getElem?_cons_zero]; rfl) rfl ?_
            (refine e_call (by go_simp <;> first | rfl | exact ⟨rfl, rfl⟩) (place_any B _ mb _ (hst.rebase (L' := [_]) (.cons _ (.cons _ (.cons _ (List.Sublist.refl _)))) rfl) (by omega) (by omega)) ?_; rintro e w1 ⟨ca, hc1, hc2, rfl, h2⟩; have HC2 := Lib.hid (And.intro hc1 hc2); replace hst := St.after (L1 := [_, _, _]) hst h2 rfl rfl (fun _ h => h); simp only [List.cons_append, List.nil_append] at hst; clear hc1 hc2 h2)
            refine ⟨_, rfl, fun _ => hst.sub (.cons _ (.cons _ (.cons_cons _ (List.nil_sublist _)))), ?_⟩
            go_frame
            refine at_e (by simp only [List.getElem?_toArray, List.getElem?_cons_succ, List.getElem?_cons_zero]; rfl) rfl ?_
            (refine e_call (by go_simp <;> first | rfl | exact ⟨rfl, rfl⟩) (wrNode_any _ 8 31 ca h.v h.v (.inl ⟨.inl rfl, rfl⟩)) ?_; rintro e w1 ⟨rfl, hb⟩; replace hst := hst.below hb; clear hb; unfold nval)
            refine ⟨_, rfl, fun _ => hst.sub (.cons _ (.cons _ (.cons_cons _ (List.nil_sublist _)))), ?_⟩
            go_frame
            refine at_e (by simp only [List.getElem?_toArray, List.getElem?_cons_succ, List.getElem?_cons_zero]; rfl) rfl ?_
            refine p_newS hst (by go_simp; first | rfl | exact ⟨⟨rfl, rfl⟩, rfl⟩) ?_
            clear hst
            intro b3 w hb3 hst
            refine ⟨fun _ => hst.sub (.cons _ (.cons _ (.cons _ (.cons_cons _ (List.nil_sublist _))))), ?_⟩
            go_frame
            refine at_e (by simp only [List.getElem?_toArray, List.getElem?_cons_succ, List.getElem?_cons_zero]; rfl) rfl ?_
            refine e_val (by go_simp; first | rfl | exact ⟨rfl, rfl⟩) (fun h => by first | cases h | exact hst.sub (.cons _ (.cons _ (.cons _ (.cons_cons _ (List.nil_sublist _)))))) ?_
            go_frame
            refine at_e (by simp only [List.getElem?_toArray, List.getElem?_cons_succ, List.getElem?_cons_zero]; rfl) rfl ?_
            (refine E1 hst ?_; clear hst; intro w hst; refine ⟨?_, ?_⟩; rotate_left; go_frame)
            · unfold wpP
              go_wp2_with ((first | ((with_reducible refine at_load ?_); first | refine X1 hst ?_ | refine XW hst ?_) | ((with_reducible refine at_store ?_); (first | refine Y1 hst ?_ | refine YW hst ?_); clear hst; intro w hst)))
              refine ret_cell hst rfl rfl (by (repeat' (first | exact List.Mem.head _ | apply List.Mem.tail)); done) (by exact agg_of rfl rfl) rfl ?_
              exact NodeR.lit HK.out.1 (by rw [hs]; decide) (hst.heap (b := b3) (by (repeat' (first | exact List.Mem.head _ | apply List.Mem.tail)); done)) hb3 HC.out HC2.out (hst.sub (.cons _ (.cons _ (.cons _ (.cons _ (List.Sublist.refl _))))))
            · intro h; cases h
          · intro h; cases h
        · exact fun _ => hst.sub (.cons _ (.cons _ (.cons_cons _ (List.nil_sublist _))))
      · exact fun _ => hst.sub (.cons _ (.cons _ (.cons_cons _ (List.nil_sublist _))))
    · exact fun _ => hst.sub (.cons _ (.cons _ (.cons_cons _ (List.nil_sublist _))))
  · rw [hs] at hst c4
    go_upto_region 8 with ((first | ((with_reducible refine at_load ?_); first | refine X1 hst ?_ | refine XW hst ?_) | ((with_reducible refine at_store ?_); (first | refine Y1 hst ?_ | refine YW hst ?_); clear hst; intro w hst)))
    refine wp_plan (fun w => St B [70] w0 w [(some b0, [.int .i64 h.kind, .string h.v, .string h.a, .string h.t, .int .i64 5, .slice p n c], 24)]) [0, 1, 2, 3, 5, 7, 9] (.q 0 (.q 1 (.q 2 (.q 3 (.e 4 true (.q 5 (.e 6 true (.q 7 (.e 8 true (.q 9 (.e 10 false (.fin)))))))))))) mixed (by kernel_rfl) (by kernel_rfl) (by kernel_rfl) (fun d v c a w h => by cases d <;> exact h) (hst.drew.sub (.cons _ (.cons _ (.cons_cons _ (List.nil_sublist _))))) ?_
    replace hst := hst.drew
    repeat ((refine AQ ?_); first | (refine Q1 ?_; go_frame) | (refine QW ?_; go_frame) | (refine QV ?_; go_frame))
    refine at_e (by simp only [List.getElem?_toArray, List.getElem?_cons_succ, List.getElem?_cons_zero]; rfl) rfl ?_
    (refine E1 hst ?_; clear hst; intro w hst; refine ⟨?_, ?_⟩; rotate_left; go_frame)
    · repeat ((refine AQ ?_); first | (refine Q1 ?_; go_frame) | (refine QW ?_; go_frame) | (refine QV ?_; go_frame))
      refine at_e (by simp only [List.getElem?_toArray, List.getElem?_cons_succ, List.getElem?_cons_zero]; rfl) rfl ?_
      (refine E1 hst ?_; clear hst; intro w hst; refine ⟨?_, ?_⟩; rotate_left; go_frame)
      · repeat ((refine AQ ?_); first | (refine Q1 ?_; go_frame) | (refine QW ?_; go_frame) | (refine QV ?_; go_frame))
        refine at_e (by simp only [List.getElem?_toArray, List.getElem?_cons_succ, List.getElem?_cons_zero]; rfl) rfl ?_
        (refine E1 hst ?_; clear hst; intro w hst; refine ⟨?_, ?_⟩; rotate_left; go_frame)
        · repeat ((refine AQ ?_); first | (refine Q1 ?_; go_frame) | (refine QW ?_; go_frame) | (refine QV ?_; go_frame))
          refine at_e (by simp only [List.getElem?_toArray, List.getElem?_cons_succ, List.getElem?_cons_zero]; rfl) rfl ?_
          (refine E1 hst ?_; clear hst; intro w hst; refine ⟨?_, ?_⟩; rotate_left; go_frame)
          · unfold wpP
            clear c4
            go_upto_region 11 with ((first | ((with_reducible refine at_load ?_); first | refine X1 hst ?_ | refine XW hst ?_) | ((with_reducible refine at_store ?_); (first | refine Y1 hst ?_ | refine YW hst ?_); clear hst; intro w hst)))
            refine wp_plan (fun w => St B [70] w0 w [(some b0, [.int .i64 h.kind, .string h.v, .string h.a, .string h.t, .int .i64 5, .slice p n c], 24)]) [0, 1, 2] (.q 0 (.q 1 (.q 2 (.e 3 true (.e 4 true (.e 5 true (.e 6 false (.e 7 false (.fin))))))))) mixed (by kernel_rfl) (by kernel_rfl) (by kernel_rfl) (fun d v c a w h => by cases d <;> exact h) (hst.drew.sub (.cons _ (.cons _ (.cons_cons _ (List.nil_sublist _))))) ?_
            replace hst := hst.drew
            repeat ((refine AQ ?_); first | (refine Q1 ?_; go_frame) | (refine QW ?_; go_frame) | (refine QV ?_; go_frame))
            refine at_e (by simp only [List.getElem?_toArray, List.getElem?_cons_succ, List.getElem?_cons_zero]; rfl) rfl ?_
            (refine e_call (by go_simp <;> first | rfl | exact ⟨rfl, rfl⟩) (place_any B _ mb _ (hst.rebase (L' := [_]) (.cons _ (.cons _ (.cons _ (List.Sublist.refl _)))) rfl) (by omega) (by omega)) ?_; rintro e w1 ⟨ca, hc1, hc2, rfl, h2⟩; have HC2 := Lib.hid (And.intro hc1 hc2); replace hst := St.after (L1 := [_, _, _]) hst h2 rfl rfl (fun _ h => h); simp only [List.cons_append, List.nil_append] at hst; clear hc1 hc2 h2)
            refine ⟨_, rfl, fun _ => hst.sub (.cons _ (.cons _ (.cons_cons _ (List.nil_sublist _)))), ?_⟩
            go_frame
            refine at_e (by simp only [List.getElem?_toArray, List.getElem?_cons_succ, List.getElem?_cons_zero]; rfl) rfl ?_
            (refine e_call (by go_simp <;> first | rfl | exact ⟨rfl, rfl⟩) (wrNode_any _ 8 31 ca h.v h.v (.inl ⟨.inl rfl, rfl⟩)) ?_; rintro e w1 ⟨rfl, hb⟩; replace hst := hst.below hb; clear hb; unfold nval)
            refine ⟨_, rfl, fun _ => hst.sub (.cons _ (.cons _ (.cons_cons _ (List.nil_sublist _)))), ?_⟩
            go_frame
            refine at_e (by simp only [List.getElem?_toArray, List.getElem?_cons_succ, List.getElem?_cons_zero]; rfl) rfl ?_
            refine p_newS hst (by go_simp; first | rfl | exact ⟨⟨rfl, rfl⟩, rfl⟩) ?_
            clear hst
            intro b3 w hb3 hst
            refine ⟨fun _ => hst.sub (.cons _ (.cons _ (.cons _ (.cons_cons _ (List.nil_sublist _))))), ?_⟩
            go_frame
            refine at_e (by simp only [List.getElem?_toArray, List.getElem?_cons_succ, List.getElem?_cons_zero]; rfl) rfl ?_
            refine e_val (by go_simp; first | rfl | exact ⟨rfl, rfl⟩) (fun h => by first | cases h | exact hst.sub (.cons _ (.cons _ (.cons _ (.cons_cons _ (List.nil_sublist _)))))) ?_
            go_frame
            refine at_e (by simp only [List.getElem?_toArray, List.getElem?_cons_succ, List.getElem?_cons_zero]; rfl) rfl ?_
            (refine E1 hst ?_; clear hst; intro w hst; refine ⟨?_, ?_⟩; rotate_left; go_frame)
            · unfold wpP
              go_wp2_with ((first | ((with_reducible refine at_load ?_); first | refine X1 hst ?_ | refine XW hst ?_) | ((with_reducible refine at_store ?_); (first | refine Y1 hst ?_ | refine YW hst ?_); clear hst; intro w hst)))
              refine ret_cell hst rfl rfl (by (repeat' (first | exact List.Mem.head _ | apply List.Mem.tail)); done) (by exact agg_of rfl rfl) rfl ?_
              exact NodeR.lit HK.out.1 (by rw [hs]; decide) (hst.heap (b := b3) (by (repeat' (first | exact List.Mem.head _ | apply List.Mem.tail)); done)) hb3 HC.out HC2.out (hst.sub (.cons _ (.cons _ (.cons _ (.cons _ (List.Sublist.refl _))))))
            · intro h; cases h
          · intro h; cases h
        · exact fun _ => hst.sub (.cons _ (.cons _ (.cons_cons _ (List.nil_sublist _))))
      · exact fun _ => hst.sub (.cons _ (.cons _ (.cons_cons _ (List.nil_sublist _))))
    · exact fun _ => hst.sub (.cons _ (.cons _ (.cons_cons _ (List.nil_sublist _))))
end Go.Proofs.YtpajcfkldnbpfaaGreatDoor
namespace Go.Proofs.YtpajcfkldnbpfaaGreatDoor
open Go.RowKit
def KdN (lo : Nat) (bs : List Nat) (oid : Option Nat) (b t : Nat) : Prop := lo ≤ b ∧ t = 31 ∧ b ∉ bs ∧ oid ≠ some b
theorem KdN.hold {B : Nat} {bl bs : List Nat} {w1 w : World} {L : Rws} {lo : Nat} {oid oid3 : Option Nat} {l3 : List Value} (h : St B ⟨[70], bl⟩ w1 w L) (hm : (oid3, l3, 31) ∈ L) (hbl : ∀ b ∈ bl, b ∈ bs ∨ oid = some b) {lo' : Nat} (hlo : lo' ≤ lo) :
    Hold (KdN lo bs oid) (KdN lo' bs oid3) w1 w := by
  intro b cs t fr ha hb
  obtain ⟨h1, h2, h3, h4⟩ := ha
  have hnb : b ∉ bl := fun hc => by
    rcases hbl b hc with h5 | h5
    · exact h3 h5
    · exact h4 h5
  refine ⟨h.kp.typ b cs t fr hb (by rw [h2]; exact (by decide : 31 ∉ [70])) hnb, by omega, h2, h3, fun e => ?_⟩
  subst e
  have hlt := lt_of_heap hb
  rcases (h.rows b l3 31 hm).2 with h5 | ⟨_, h5 | h5⟩
  · omega
  · revert h5; exact (by decide : 31 ∉ [70])
  · exact hnb h5
theorem KdN.hold2 {B : Nat} {bl bs nb : List Nat} {w1 w : World} {L : Rws} {lo : Nat} {oid : Option Nat} (h : St B ⟨[70], bl⟩ w1 w L) (hbl : ∀ b ∈ bl, b ∈ bs ∨ oid = some b) (hn : ∀ b ∈ nb, w1.heap.size ≤ b) :
    Hold (KdN lo bs oid) (KdN lo (nb ++ bs) oid) w1 w := by
  intro b cs t fr ha hb
  obtain ⟨h1, h2, h3, h4⟩ := ha
  have hnb : b ∉ bl := fun hc => by
    rcases hbl b hc with h5 | h5
    · exact h3 h5
    · exact h4 h5
  refine ⟨h.kp.typ b cs t fr hb (by rw [h2]; exact (by decide : 31 ∉ [70])) hnb, h1, h2, fun hc => ?_, h4⟩
  rcases List.mem_append.1 hc with hc | hc
  · have := hn b hc
    have := lt_of_heap hb
    omega
  · exact h3 hc
theorem KdN.call {B : Nat} {bs : List Nat} {w1 w : World} {lo : Nat} {oid : Option Nat} (h : Kp B [70] w1 w) : Hold (KdN lo bs oid) (KdN lo bs oid) w1 w := by
  intro b cs t fr ha hb
  exact ⟨h.typ b cs t fr hb (by rw [ha.2.1]; exact (by decide : 31 ∉ [70])) (by exact List.not_mem_nil), ha⟩
theorem KdN.less {bs bs' : List Nat} {w : World} {lo : Nat} {oid : Option Nat} (h : ∀ b ∈ bs', b ∈ bs) : Hold (KdN lo bs oid) (KdN lo bs' oid) w w := by
  intro b cs t fr ha hb
  exact ⟨hb, ha.1, ha.2.1, fun hc => ha.2.2.1 (h b hc), ha.2.2.2⟩
theorem KdN.new {B : Nat} {Ts : Ch} {bs : List Nat} {w0 w1 w : World} {L : Rws} {oid : Option Nat} (h : St B Ts w0 w1 L) (hb : ∃ r, L.map (·.1) = bs.map some ++ oid :: r) : Hold (NewN w1.heap.size) (KdN w0.heap.size bs oid) w w := by
  intro b cs t fr ha hb'
  obtain ⟨r, hr⟩ := hb
  have hlt : ∀ c, some c ∈ bs.map some ++ oid :: r → c < w1.heap.size := fun c hc => by
    rw [← hr] at hc
    obtain ⟨⟨x, l, t⟩, hm, he⟩ := List.mem_map.1 hc
    simp only at he
    subst he
    exact lt_of_heap (h.heap hm)
  have h1 := ha.1
  have h2 := h.kp.size
  refine ⟨hb', by omega, ha.2, fun hc => ?_, fun e => ?_⟩
  · have := hlt b (List.mem_append_left _ (List.mem_map.2 ⟨b, hc, rfl⟩))
    omega
  · have := hlt b (List.mem_append_right _ (by simp [e]))
    omega
theorem St.loN {B : Nat} {w0 w : World} {L : Rws} (h : St B [70] w0 w L) {bs : List Nat} {oid : Option Nat} {l : List Value} (hm : (oid, l, 31) ∈ L) (hb : ∀ b ∈ bs, w0.heap.size ≤ b) : ∀ b ∈ bs ++ oid.toList, w0.heap.size ≤ b := by
  intro b h1
  rcases in_bs b h1 with h1 | h1
  · exact hb b h1
  · subst h1
    rcases (h.rows b l 31 hm).2 with h5 | ⟨_, h5 | h5⟩
    · exact h5
    · exact absurd h5 (by decide : ¬ 31 ∈ [70])
    · cases h5
def NodeC (x : Int) (h : TH) (k : F TH) : Prop := ∀ (B mb : Nat) (col : Int) (p : Option Addr) (c : Nat) (w : World), St B [70] w w [(some mb, [.int .i64 1, .int .i64 col], 70)] → 1 ≤ col → col + 6 * k.size + x ≤ 890 → TreeOK h k → k.len ≤ c → Sl TS (fun _ t => t = 24) w p k →
  Calls Tryz.prog 26 #[.pointer (some ⟨mb, 0, none⟩), tval h (.slice p k.len c)] w (NodeR x h k B mb col w)
def CollN (h : TH) (k : F TH) : Prop := ∀ (B mb : Nat) (col : Int) (p : Option Addr) (c : Nat) (w : World), St B [70] w w [(some mb, [.int .i64 1, .int .i64 col], 70)] → 1 ≤ col → col + 6 * k.size + 1 ≤ 890 → TreeOK h k → h.kind = 2 ∨ h.kind = 3 → k.len ≤ c → Sl TS (fun _ t => t = 24) w p k →
  Calls Tryz.prog 52 #[.pointer (some ⟨mb, 0, none⟩), tval h (.slice p k.len c)] w (NodeR 1 h k B mb col w)
theorem NodeR.mono {x y : Int} (hxy : x ≤ y) {h : TH} {k : F TH} {B mb : Nat} {col : Int} {w : World} {e : Ending} {w' : World} (hn : NodeR x h k B mb col w e w') : NodeR y h k B mb col w e w' := by
  obtain ⟨h', k', p', c', col', h1, h2, h3, h4, h5, h6, h7⟩ := hn
  exact ⟨h', k', p', c', col', h1, h2, h3, h4, h5, by omega, h7⟩
theorem KidN.stay {B : Nat} {bl : List Nat} {w0 wc w1 w : World} {L Lw : Rws} (hc : St B [70] w0 wc L) (hb : ∃ r, L.map (·.1) = bl.map some ++ r) (h : St B ⟨[70], bl⟩ w1 w Lw) : Hold (NewN wc.heap.size) (NewN w0.heap.size) w1 w := by
  intro b cs t fr ha hb'
  obtain ⟨r, hr⟩ := hb
  have h1 := ha.1
  have h2 := hc.kp.size
  refine ⟨h.kp.typ b cs t fr hb' (by rw [ha.2]; exact (by decide : 31 ∉ [70])) (fun hm => ?_), by omega, ha.2⟩
  have h3 : some b ∈ L.map (·.1) := by rw [hr]; exact List.mem_append_left _ (List.mem_map.2 ⟨b, hm, rfl⟩)
  obtain ⟨⟨x, l, t'⟩, hm2, he⟩ := List.mem_map.1 h3
  simp only at he
  subst he
  have := lt_of_heap (hc.heap hm2)
  omega
theorem TIs.stay {B : Nat} {Ts : Ch} {w0 w : World} (h : Kp B Ts w0 w) (h24 : 24 ∉ Ts.ts) (hb : Ts.bs = []) : Hold (fun _ t => t = 24) (fun _ t => t = 24) w0 w := fun b cs t fr ha hb' => ⟨h.typ b cs t fr hb' (by rw [ha]; exact h24) (by rw [hb]; exact List.not_mem_nil), ha⟩
end Go.Proofs.YtpajcfkldnbpfaaGreatDoor
namespace Go.Proofs.YtpajcfkldnbpfaaGreatDoor
open Go.RowKit
set_option maxRecDepth 100000 in
set_option maxHeartbeats 1000000 in
theorem node0 (v : ByteArray) (kind st : Int) (k : F TH) (hk : kind ≠ 4) (hC : CollN ⟨kind, v, ByteArray.empty, ByteArray.empty, st⟩ k) : NodeC 1 ⟨kind, v, ByteArray.empty, ByteArray.empty, st⟩ k := by
  intro B mb col p c w0 hst hc1 hc2 hok hkc hs
  unfold tval
  have hs' := hs
  have HS := Lib.hid (And.intro hC (And.intro hok hs))
  clear hs hs' hC
  obtain ⟨⟨-, -, hv40, hkd⟩, -⟩ := hok
  have HV := Lib.hid hv40
  clear hv40
  rcases hkd with ⟨rfl, rfl, h1, h5, -, -⟩ | h23
  · simp only at h1 h5
    go_enter Tryz.func26, Tryz.ntmps26
    go_wp2_with ((first | ((with_reducible refine at_load ?_); first | refine X1 hst ?_ | refine XW hst ?_) | ((with_reducible refine at_store ?_); (first | refine Y1 hst ?_ | refine YW hst ?_); clear hst; intro w hst) | ((first | ((with_reducible refine at_alloc ?_); refine ZP hst ?_) | ((with_reducible refine at_box ?_); refine ZP hst ?_) | ((with_reducible refine at_bslice ?_); refine ZS hst ?_)); clear hst; (first | ((fail_if_success have := b0); intro b0 w hb0 hst) | ((fail_if_success have := b1); intro b1 w hb1 hst) | (intro b2 w hb2 hst)))))
    refine (scalar_n ⟨1, v, ByteArray.empty, ByteArray.empty, st⟩ p 0 c B mb col _ (hst.rebase (L' := [_]) (.cons _ (.cons _ (List.Sublist.refl _))) rfl) hc1 (by omega) rfl h1 h5 HV.out).mono ?_
    rintro e w1 ⟨h', k', p', c', col', rfl, hsl, hcc, hst2, hsz, hsz2, hg⟩
    (have hcall := hst; replace hst := St.after (L1 := [_, _]) hst hst2 rfl rfl (fun _ h => h); simp only [List.cons_append, List.nil_append] at hst; have hwa := St.watchP (L1 := [_, _]) hst (bs := [b1, b0]) rfl rfl; simp only [List.cons_append, List.nil_append] at hwa; have HQ := Lib.hid (And.intro hcall (And.intro hsl (And.intro hcc (And.intro hsz (And.intro hsz2 (And.intro hg hst)))))); clear hcall hsl hcc hsz hsz2 hg hst hst2; have hst := hwa; clear hwa; unfold nval)
    go_wp2_with ((first | ((with_reducible refine at_load ?_); first | refine X1 hst ?_ | refine XW hst ?_) | ((with_reducible refine at_store ?_); (first | refine Y1 hst ?_ | refine YW hst ?_); clear hst; intro w hst)))
    refine ret_cell hst rfl rfl (by (repeat' (first | exact List.Mem.head _ | apply List.Mem.tail)); done) (by exact agg_of rfl rfl) rfl ?_
    (obtain ⟨hcall, hsl, hcc, hsz, hsz2, hg, hst1⟩ := HQ.out; exact ⟨h', k', p', c', col', rfl, hsl.hold (KidN.stay hcall ⟨_, rfl⟩ hst), hcc, (hst1.unwatch hst (by simp; omega)).sub (.cons _ (.cons _ (List.Sublist.refl _))), hsz, hsz2, hg⟩)
  · have hkd2 : kind = 2 ∨ kind = 3 := by
      rcases h23 with h | ⟨h, -⟩ | ⟨h, -⟩
      · exact .inl h
      · exact .inr h
      · exact absurd h hk
    clear h23
    rcases hkd2 with rfl | rfl
    all_goals
      go_enter Tryz.func26, Tryz.ntmps26
      go_wp2_with ((first | ((with_reducible refine at_load ?_); first | refine X1 hst ?_ | refine XW hst ?_) | ((with_reducible refine at_store ?_); (first | refine Y1 hst ?_ | refine YW hst ?_); clear hst; intro w hst) | ((first | ((with_reducible refine at_alloc ?_); refine ZP hst ?_) | ((with_reducible refine at_box ?_); refine ZP hst ?_) | ((with_reducible refine at_bslice ?_); refine ZS hst ?_)); clear hst; (first | ((fail_if_success have := b0); intro b0 w hb0 hst) | ((fail_if_success have := b1); intro b1 w hb1 hst) | (intro b2 w hb2 hst)))))
      refine (HS.out.1 B mb col p c _ (hst.rebase (L' := [_]) (.cons _ (.cons _ (List.Sublist.refl _))) rfl) hc1 hc2 HS.out.2.1 (by first | exact .inl rfl | exact .inr rfl) hkc (HS.out.2.2.hold (TIs.stay hst.kp (by decide) rfl))).mono ?_
      rintro e w1 ⟨h', k', p', c', col', rfl, hsl, hcc, hst2, hsz, hsz2, hg⟩
      (have hcall := hst; replace hst := St.after (L1 := [_, _]) hst hst2 rfl rfl (fun _ h => h); simp only [List.cons_append, List.nil_append] at hst; have hwa := St.watchP (L1 := [_, _]) hst (bs := [b1, b0]) rfl rfl; simp only [List.cons_append, List.nil_append] at hwa; have HQ := Lib.hid (And.intro hcall (And.intro hsl (And.intro hcc (And.intro hsz (And.intro hsz2 (And.intro hg hst)))))); clear hcall hsl hcc hsz hsz2 hg hst hst2; have hst := hwa; clear hwa; unfold nval)
      go_wp2_with ((first | ((with_reducible refine at_load ?_); first | refine X1 hst ?_ | refine XW hst ?_) | ((with_reducible refine at_store ?_); (first | refine Y1 hst ?_ | refine YW hst ?_); clear hst; intro w hst)))
      refine ret_cell hst rfl rfl (by (repeat' (first | exact List.Mem.head _ | apply List.Mem.tail)); done) (by exact agg_of rfl rfl) rfl ?_
      (obtain ⟨hcall, hsl, hcc, hsz, hsz2, hg, hst1⟩ := HQ.out; exact ⟨h', k', p', c', col', rfl, hsl.hold (KidN.stay hcall ⟨_, rfl⟩ hst), hcc, (hst1.unwatch hst (by simp; omega)).sub (.cons _ (.cons _ (List.Sublist.refl _))), hsz, hsz2, hg⟩)
theorem NodeR.ali {h : TH} {B mb b3 : Nat} {col c ca typ : Int} {text : ByteArray} {w w' : World} (hk : h.kind = 4) (hm : w'.heap[b3]? = some (.cells (List.toArray [.int .i64 8, .int .i64 31, .string h.a, .string h.a, .string h.a, .string ByteArray.empty, .bool false, .bool false, .bool false, .int .i64 1, .int .i64 ca, .int .i64 ca, .int .i64 0, .int .i64 0, .slice none 0 0, .slice none 0 0, .slice none 0 0, .slice none 0 0, .slice none 0 0]) 31 (0, 0))) (h3 : w.heap.size ≤ b3) (hc : 1 ≤ c ∧ c ≤ 200) (hca : 1 ≤ ca ∧ ca ≤ 200)
    (hb : St B [70] w w' [(some mb, [.int .i64 1, .int .i64 (col + 1 + 1)], 70)]) :
    NodeR 1 h .nil B mb col w (.returned (.agg (List.toArray [.int .i64 17, .int .i64 typ, .string h.a, .string text, .string text, .string ByteArray.empty, .bool false, .bool false, .bool false, .int .i64 1, .int .i64 c, .int .i64 c, .int .i64 0, .int .i64 0, .slice none 0 0, .slice none 0 0, .slice none 0 0, .slice none 0 0, .slice (some ⟨b3, 0, none⟩) 1 1]))) w' :=
  ⟨⟨17, typ, h.a, text, false, c, c⟩, .cons ⟨8, 31, h.a, h.a, false, ca, ca⟩ .nil .nil, some ⟨b3, 0, none⟩, 1, col + 1 + 1, rfl, .inr ⟨b3, 0, _, _, _, rfl, hm, ⟨h3, rfl⟩, none, 0, [], rfl, Nat.le_refl _, .inl rfl, trivial⟩, Nat.le_refl _, hb, by simp [F.size]; omega, by simp [F.size],
   fun _ _ => ⟨⟨hc.1, hc.2, rfl, .inr (.inr (.inr (.inr (.inr (.inr (.inl ⟨rfl, rfl, _, rfl, rfl, rfl⟩))))))⟩, ⟨⟨hca.1, hca.2, rfl, .inl ⟨rfl, .inl rfl, rfl⟩⟩, trivial, trivial⟩⟩, fun h => absurd h (by omega)⟩
set_option maxRecDepth 100000 in
set_option maxHeartbeats 1000000 in
theorem node4 (h : TH) (hk : h.kind = 4) : NodeC 4 h .nil := by
  intro B mb col p c w0 hst hc1 hc2 hok hkc hs
  simp only [F.size] at hc2
  clear hok hkc hs
  obtain ⟨kind, v, a, t, st⟩ := h
  simp only at hk
  subst hk
  unfold tval
  simp only [F.len]
  go_enter Tryz.func26, Tryz.ntmps26
  go_wp2_with ((first | ((with_reducible refine at_load ?_); first | refine X1 hst ?_ | refine XW hst ?_) | ((with_reducible refine at_store ?_); (first | refine Y1 hst ?_ | refine YW hst ?_); clear hst; intro w hst) | ((first | ((with_reducible refine at_alloc ?_); refine ZP hst ?_) | ((with_reducible refine at_box ?_); refine ZP hst ?_) | ((with_reducible refine at_bslice ?_); refine ZS hst ?_)); clear hst; (first | ((fail_if_success have := b0); intro b0 w hb0 hst) | ((fail_if_success have := b1); intro b1 w hb1 hst) | ((fail_if_success have := b2); intro b2 w hb2 hst) | ((fail_if_success have := b3); intro b3 w hb3 hst) | (intro b4 w hb4 hst)))))
  (refine (place_any B _ mb _ (hst.rebase (L' := [_]) (.cons _ (.cons _ (List.Sublist.refl _))) rfl) (by omega) (by omega)).mono ?_; rintro e w1 ⟨cc, hc3, hc4, rfl, h2⟩; have HC := Lib.hid (And.intro hc3 hc4); replace hst := St.after (L1 := [_, _]) hst h2 rfl rfl (fun _ h => h); simp only [List.cons_append, List.nil_append] at hst; clear hc3 hc4 h2)
  go_wp2_with ((first | ((with_reducible refine at_load ?_); first | refine X1 hst ?_ | refine XW hst ?_) | ((with_reducible refine at_store ?_); (first | refine Y1 hst ?_ | refine YW hst ?_); clear hst; intro w hst) | ((first | ((with_reducible refine at_alloc ?_); refine ZP hst ?_) | ((with_reducible refine at_box ?_); refine ZP hst ?_) | ((with_reducible refine at_bslice ?_); refine ZS hst ?_)); clear hst; (first | ((fail_if_success have := b0); intro b0 w hb0 hst) | ((fail_if_success have := b1); intro b1 w hb1 hst) | ((fail_if_success have := b2); intro b2 w hb2 hst) | ((fail_if_success have := b3); intro b3 w hb3 hst) | (intro b4 w hb4 hst)))))
  (refine (wrNode_any _ 17 14 cc ⟨#[42]⟩ ByteArray.empty (.inr ⟨by decide, by decide, rfl⟩)).mono ?_; rintro e w1 ⟨rfl, hb⟩; replace hst := hst.below hb; clear hb; unfold nval)
  go_upto_region 3 with ((first | ((with_reducible refine at_load ?_); first | refine X1 hst ?_ | refine XW hst ?_) | ((with_reducible refine at_store ?_); (first | refine Y1 hst ?_ | refine YW hst ?_); clear hst; intro w hst) | ((first | ((with_reducible refine at_alloc ?_); refine ZP hst ?_) | ((with_reducible refine at_box ?_); refine ZP hst ?_) | ((with_reducible refine at_bslice ?_); refine ZS hst ?_)); clear hst; (first | ((fail_if_success have := b0); intro b0 w hb0 hst) | ((fail_if_success have := b1); intro b1 w hb1 hst) | ((fail_if_success have := b2); intro b2 w hb2 hst) | ((fail_if_success have := b3); intro b3 w hb3 hst) | (intro b4 w hb4 hst)))))
  refine wp_plan (fun w => St B [70] w0 w [(some b0, [.int .i64 4, .string v, .string a, .string t, .int .i64 st, .slice p 0 c], 24)]) [0, 1, 2, 3, 4, 8, 10] (.q 0 (.q 1 (.q 2 (.q 3 (.q 4 (.q 8 (.e 5 true (.e 6 true (.e2 7 true (.e 9 true (.q 10 (.e 11 false (.fin)))) 9 true (.e 7 true (.q 10 (.e 11 false (.fin))))))))))))) mixed (by kernel_rfl) (by kernel_rfl) (by kernel_rfl) (fun d v c a w h => by cases d <;> exact h) (hst.drew.sub (.cons _ (.cons _ (.cons_cons _ (List.nil_sublist _))))) ?_
  replace hst := hst.drew
  repeat ((refine AQ ?_); first | (refine Q1 ?_; go_frame) | (refine QW ?_; go_frame) | (refine QV ?_; go_frame))
  refine at_e (by simp only [List.getElem?_toArray, List.getElem?_cons_succ, List.getElem?_cons_zero]; rfl) rfl ?_
  (refine e_call (by go_simp <;> first | rfl | exact ⟨rfl, rfl⟩) (place_any B _ mb _ (hst.rebase (L' := [_]) (.cons _ (.cons _ (.cons _ (List.Sublist.refl _)))) rfl) (by omega) (by omega)) ?_; rintro e w1 ⟨ca, hc3, hc4, rfl, h2⟩; have HC2 := Lib.hid (And.intro hc3 hc4); replace hst := St.after (L1 := [_, _, _]) hst h2 rfl rfl (fun _ h => h); simp only [List.cons_append, List.nil_append] at hst; clear hc3 hc4 h2)
  refine ⟨_, rfl, fun _ => hst.sub (.cons _ (.cons _ (.cons_cons _ (List.nil_sublist _)))), ?_⟩
  go_frame
  refine at_e (by simp only [List.getElem?_toArray, List.getElem?_cons_succ, List.getElem?_cons_zero]; rfl) rfl ?_
  (refine e_call (by go_simp <;> first | rfl | exact ⟨rfl, rfl⟩) (wrNode_any _ 8 31 ca a a (.inl ⟨.inl rfl, rfl⟩)) ?_; rintro e w1 ⟨rfl, hb⟩; replace hst := hst.below hb; clear hb; unfold nval)
  refine ⟨_, rfl, fun _ => hst.sub (.cons _ (.cons _ (.cons_cons _ (List.nil_sublist _)))), ?_⟩
  go_frame
  refine at_e2 (by simp only [List.getElem?_toArray, List.getElem?_cons_succ, List.getElem?_cons_zero]; rfl) rfl (by simp only [List.getElem?_toArray, List.getElem?_cons_succ, List.getElem?_cons_zero]; rfl) rfl ?_ ?_
  · refine p_newS hst (by go_simp; first | rfl | exact ⟨⟨rfl, rfl⟩, rfl⟩) ?_
    clear hst
    intro b3 w hb3 hst
    refine ⟨fun _ => hst.sub (.cons _ (.cons _ (.cons _ (.cons_cons _ (List.nil_sublist _))))), ?_⟩
    go_frame
    refine at_e (by simp only [List.getElem?_toArray, List.getElem?_cons_succ, List.getElem?_cons_zero]; rfl) rfl ?_
    (refine E1 hst ?_; clear hst; intro w hst; refine ⟨?_, ?_⟩; rotate_left; go_frame)
    · repeat ((refine AQ ?_); first | (refine Q1 ?_; go_frame) | (refine QW ?_; go_frame) | (refine QV ?_; go_frame))
      refine at_e (by simp only [List.getElem?_toArray, List.getElem?_cons_succ, List.getElem?_cons_zero]; rfl) rfl ?_
      (refine E1 hst ?_; clear hst; intro w hst; refine ⟨?_, ?_⟩; rotate_left; go_frame)
      · unfold wpP
        go_wp2_with ((first | ((with_reducible refine at_load ?_); first | refine X1 hst ?_ | refine XW hst ?_) | ((with_reducible refine at_store ?_); (first | refine Y1 hst ?_ | refine YW hst ?_); clear hst; intro w hst)))
        refine ret_cell hst rfl rfl (by (repeat' (first | exact List.Mem.head _ | apply List.Mem.tail)); done) (by exact agg_of rfl rfl) rfl ?_
        exact NodeR.mono (by decide) (NodeR.ali (h := ⟨4, v, a, t, st⟩) rfl (hst.heap (b := b3) (by (repeat' (first | exact List.Mem.head _ | apply List.Mem.tail)); done)) hb3 HC.out HC2.out (hst.sub (.cons _ (.cons _ (.cons _ (.cons _ (List.Sublist.refl _)))))))
      · intro h; cases h
    · exact fun _ => hst.sub (.cons _ (.cons _ (.cons _ (.cons_cons _ (List.nil_sublist _)))))
  · (refine E1 hst ?_; clear hst; intro w hst; refine ⟨?_, ?_⟩; rotate_left; go_frame)
    · refine at_e (by simp only [List.getElem?_toArray, List.getElem?_cons_succ, List.getElem?_cons_zero]; rfl) rfl ?_
      refine p_newS hst (by go_simp; first | rfl | exact ⟨⟨rfl, rfl⟩, rfl⟩) ?_
      clear hst
      intro b3 w hb3 hst
      refine ⟨fun _ => hst.sub (.cons _ (.cons _ (.cons _ (.cons_cons _ (List.nil_sublist _))))), ?_⟩
      go_frame
      repeat ((refine AQ ?_); first | (refine Q1 ?_; go_frame) | (refine QW ?_; go_frame) | (refine QV ?_; go_frame))
      refine at_e (by simp only [List.getElem?_toArray, List.getElem?_cons_succ, List.getElem?_cons_zero]; rfl) rfl ?_
      (refine E1 hst ?_; clear hst; intro w hst; refine ⟨?_, ?_⟩; rotate_left; go_frame)
      · unfold wpP
        go_wp2_with ((first | ((with_reducible refine at_load ?_); first | refine X1 hst ?_ | refine XW hst ?_) | ((with_reducible refine at_store ?_); (first | refine Y1 hst ?_ | refine YW hst ?_); clear hst; intro w hst)))
        refine ret_cell hst rfl rfl (by (repeat' (first | exact List.Mem.head _ | apply List.Mem.tail)); done) (by exact agg_of rfl rfl) rfl ?_
        exact NodeR.mono (by decide) (NodeR.ali (h := ⟨4, v, a, t, st⟩) rfl (hst.heap (b := b3) (by (repeat' (first | exact List.Mem.head _ | apply List.Mem.tail)); done)) hb3 HC.out HC2.out (hst.sub (.cons _ (.cons _ (.cons _ (.cons _ (List.Sublist.refl _)))))))
      · intro h; cases h
    · exact fun _ => hst.sub (.cons _ (.cons _ (.cons_cons _ (List.nil_sublist _))))
end Go.Proofs.YtpajcfkldnbpfaaGreatDoor
