/- The nodes of trees with anchors and tags. -/
import Derived.Test.YtpajcfkldnbpfaaGreatDoorV10
set_option linter.unusedSimpArgs false
set_option linter.unusedVariables false
namespace Go.Proofs.YtpajcfkldnbpfaaGreatDoor
open Go.RowKit
theorem NodeR.anc {h h0 : TH} {k : F TH} {h' : NH} {k' : F NH} {p' : Option Addr} {c' B mb b4 : Nat} {col col' c ca typ : Int} {a text : ByteArray} {w w' : World} (hkd : h0.kind = h.kind ∧ h0.st = h.st ∧ h0.v = h.v) (ha : h.a.size ≠ 0) (hm : w'.heap[b4]? = some (.cells (List.toArray ([.int .i64 8, .int .i64 31, .string a, .string a, .string a, .string ByteArray.empty, .bool false, .bool false, .bool false, .int .i64 1, .int .i64 ca, .int .i64 ca, .int .i64 0, .int .i64 0, .slice none 0 0, .slice none 0 0, .slice none 0 0, .slice none 0 0, .slice none 0 0] ++ nL h' (.slice p' k'.len c'))) 31 (0, 0))) (h4 : w.heap.size ≤ b4) (hc : 1 ≤ c ∧ c ≤ 200) (hca : 1 ≤ ca ∧ ca ≤ 200)
    (hsl : Sl NS (NewN w.heap.size) w' p' k') (hcc : k'.len ≤ c') (hb : St B [70] w w' [(some mb, [.int .i64 1, .int .i64 col'], 70)]) (hsz : (k'.size : Int) + 1 = col' - (col + 1 + 1)) (hsz2 : (k'.size : Int) ≤ 6 * k.size + 1) (hg : NGood h0 k h' k') :
    NodeR 3 h k B mb col w (.returned (.agg (List.toArray [.int .i64 16, .int .i64 typ, .string a, .string text, .string text, .string ByteArray.empty, .bool false, .bool false, .bool false, .int .i64 1, .int .i64 c, .int .i64 c, .int .i64 0, .int .i64 0, .slice none 0 0, .slice none 0 0, .slice none 0 0, .slice none 0 0, .slice (some ⟨b4, 0, none⟩) 2 2]))) w' :=
  ⟨⟨16, typ, a, text, false, c, c⟩, .cons ⟨8, 31, a, a, false, ca, ca⟩ .nil (.cons h' k' .nil), some ⟨b4, 0, none⟩, 2, col', rfl, .inr ⟨b4, 0, _, _, _, rfl, hm, ⟨h4, rfl⟩, none, 0, _, rfl, Nat.le_refl _, .inl rfl, p', c', [], (List.append_nil _).symm, hcc, hsl, trivial⟩, Nat.le_refl _, hb, by simp [F.size]; omega, by simp [F.size]; omega,
   fun h1 h2 => by
    obtain ⟨h3, h4⟩ := hg.1 (fun e1 e2 => by rw [hkd.2.2]; exact h1 (hkd.1 ▸ e1) (hkd.2.1 ▸ e2)) h2
    exact ⟨⟨hc.1, hc.2, rfl, .inr (.inr (.inr (.inr (.inr (.inl ⟨rfl, rfl, _, _, _, rfl, rfl, rfl⟩)))))⟩, ⟨hca.1, hca.2, rfl, .inl ⟨rfl, .inl rfl, rfl⟩⟩, trivial, h3, h4, trivial⟩, fun _ e => absurd e ha⟩
theorem NodeR.tag {h h0 : TH} {k : F TH} {h' : NH} {k' : F NH} {p' : Option Addr} {c' B mb b4 : Nat} {col col' c typ : Int} {t : ByteArray} {w w' : World} (hkd : h0.kind = h.kind ∧ h0.st = h.st ∧ h0.v = h.v) (ht : h.t.size ≠ 0) (hm : w'.heap[b4]? = some (.cells (List.toArray (nL h' (.slice p' k'.len c'))) 31 (0, 0))) (h4 : w.heap.size ≤ b4) (hc : 1 ≤ c ∧ c ≤ 200)
    (hsl : Sl NS (NewN w.heap.size) w' p' k') (hcc : k'.len ≤ c') (hb : St B [70] w w' [(some mb, [.int .i64 1, .int .i64 col'], 70)]) (hsz : (k'.size : Int) + 1 = col' - (col + 1)) (hsz2 : (k'.size : Int) ≤ 6 * k.size + 3) (hg : NGood h0 k h' k') :
    NodeR 4 h k B mb col w (.returned (.agg (List.toArray [.int .i64 19, .int .i64 typ, .string t, .string t, .string t, .string ByteArray.empty, .bool false, .bool false, .bool false, .int .i64 1, .int .i64 c, .int .i64 c, .int .i64 0, .int .i64 0, .slice none 0 0, .slice none 0 0, .slice none 0 0, .slice none 0 0, .slice (some ⟨b4, 0, none⟩) 1 1]))) w' :=
  ⟨⟨19, typ, t, t, false, c, c⟩, .cons h' k' .nil, some ⟨b4, 0, none⟩, 1, col', rfl, .inr ⟨b4, 0, _, _, _, rfl, hm, ⟨h4, rfl⟩, p', c', [], (List.append_nil _).symm, hcc, hsl, trivial⟩, Nat.le_refl _, hb, by simp [F.size]; omega, by simp [F.size]; omega,
   fun h1 h2 => by
    obtain ⟨h3, h4⟩ := hg.1 (fun e1 e2 => by rw [hkd.2.2]; exact h1 (hkd.1 ▸ e1) (hkd.2.1 ▸ e2)) h2
    exact ⟨⟨hc.1, hc.2, rfl, .inr (.inr (.inr (.inr (.inr (.inr (.inr ⟨rfl, rfl, rfl, _, _, rfl⟩))))))⟩, h3, h4, trivial⟩, fun _ _ e => absurd e ht⟩
theorem NodeOK.bare {kind st : Int} {v a t : ByteArray} {k : F TH} (h : NodeOK ⟨kind, v, a, t, st⟩ k) (a' t' : ByteArray) (ha : a'.size ≤ 8) (ht : t'.size ≤ 9) : NodeOK ⟨kind, v, a', t', st⟩ k := ⟨ha, ht, h.2.2.1, h.2.2.2⟩
theorem TreeOK.bare {kind st : Int} {v a : ByteArray} {k : F TH} (h : TreeOK ⟨kind, v, a, ByteArray.empty, st⟩ k) : TreeOK ⟨kind, v, ByteArray.empty, ByteArray.empty, st⟩ k := ⟨h.1.bare _ _ (by decide) (by decide), h.2⟩
theorem TreeOK.bareT {kind st : Int} {v a t : ByteArray} {k : F TH} (h : TreeOK ⟨kind, v, a, t, st⟩ k) : TreeOK ⟨kind, v, a, ByteArray.empty, st⟩ k := ⟨h.1.bare _ _ h.1.1 (by decide), h.2⟩
theorem ne_nil {a : ByteArray} (h : a.size ≠ 0) : a.toList.isEmpty = false := isEmpty_list fun e => h (by obtain rfl := of_list e; rfl)
theorem size_ne_nil {a : ByteArray} (h : a.size ≠ 0) : (a.toList == []) = false := by
  have := ne_nil h
  cases hl : a.toList with
  | nil => rw [hl] at this; cases this
  | cons x l => rfl
set_option maxRecDepth 100000 in
set_option maxHeartbeats 1000000 in
theorem node1 (v a : ByteArray) (kind st : Int) (k : F TH) (hk : kind ≠ 4) (ha : a.size ≠ 0) (hN : NodeC 1 ⟨kind, v, ByteArray.empty, ByteArray.empty, st⟩ k) : NodeC 3 ⟨kind, v, a, ByteArray.empty, st⟩ k := by
  intro B mb col p c w0 hst hc1 hc2 hok hkc hs
  unfold tval
  have HS := Lib.hid (And.intro hN (And.intro hok hs))
  clear hs hN hok
  have hk4 : ((kind : Int) == 4) = false := by simpa using hk
  have ha1 := ne_nil ha
  go_enter Tryz.func26, Tryz.ntmps26
  go_wp2_with ((first | ((with_reducible refine at_load ?_); first | refine X1 hst ?_ | refine XW hst ?_) | ((with_reducible refine at_store ?_); (first | refine Y1 hst ?_ | refine YW hst ?_); clear hst; intro w hst) | ((first | ((with_reducible refine at_alloc ?_); refine ZP hst ?_) | ((with_reducible refine at_box ?_); refine ZP hst ?_) | ((with_reducible refine at_bslice ?_); refine ZS hst ?_)); clear hst; (first | ((fail_if_success have := b0); intro b0 w hb0 hst) | ((fail_if_success have := b1); intro b1 w hb1 hst) | ((fail_if_success have := b2); intro b2 w hb2 hst) | ((fail_if_success have := b3); intro b3 w hb3 hst) | ((fail_if_success have := b4); intro b4 w hb4 hst) | (intro b5 w hb5 hst)))))
  (refine (place_any B _ mb _ (hst.rebase (L' := [_]) (.cons _ (.cons _ (List.Sublist.refl _))) rfl) (by omega) (by omega)).mono ?_; rintro e w1 ⟨cc, hc3, hc4, rfl, h2⟩; have HC := Lib.hid (And.intro hc3 hc4); replace hst := St.after (L1 := [_, _]) hst h2 rfl rfl (fun _ h => h); simp only [List.cons_append, List.nil_append] at hst; clear hc3 hc4 h2)
  go_wp2_with ((first | ((with_reducible refine at_load ?_); first | refine X1 hst ?_ | refine XW hst ?_) | ((with_reducible refine at_store ?_); (first | refine Y1 hst ?_ | refine YW hst ?_); clear hst; intro w hst) | ((first | ((with_reducible refine at_alloc ?_); refine ZP hst ?_) | ((with_reducible refine at_box ?_); refine ZP hst ?_) | ((with_reducible refine at_bslice ?_); refine ZS hst ?_)); clear hst; (first | ((fail_if_success have := b0); intro b0 w hb0 hst) | ((fail_if_success have := b1); intro b1 w hb1 hst) | ((fail_if_success have := b2); intro b2 w hb2 hst) | ((fail_if_success have := b3); intro b3 w hb3 hst) | ((fail_if_success have := b4); intro b4 w hb4 hst) | (intro b5 w hb5 hst)))))
  (refine (wrNode_any _ 16 13 cc ⟨#[38]⟩ ByteArray.empty (.inr ⟨by decide, by decide, rfl⟩)).mono ?_; rintro e w1 ⟨rfl, hb⟩; replace hst := hst.below hb; clear hb; unfold nval)
  go_upto_region 13 with ((first | ((with_reducible refine at_load ?_); first | refine X1 hst ?_ | refine XW hst ?_) | ((with_reducible refine at_store ?_); (first | refine Y1 hst ?_ | refine YW hst ?_); clear hst; intro w hst) | ((first | ((with_reducible refine at_alloc ?_); refine ZP hst ?_) | ((with_reducible refine at_box ?_); refine ZP hst ?_) | ((with_reducible refine at_bslice ?_); refine ZS hst ?_)); clear hst; (first | ((fail_if_success have := b0); intro b0 w hb0 hst) | ((fail_if_success have := b1); intro b1 w hb1 hst) | ((fail_if_success have := b2); intro b2 w hb2 hst) | ((fail_if_success have := b3); intro b3 w hb3 hst) | ((fail_if_success have := b4); intro b4 w hb4 hst) | (intro b5 w hb5 hst)))))
  go_frame
  go_cut [8] (fun y wx => ∃ (b3 : Nat) (ca : Int), y = .pointer (some ⟨b3, 0, none⟩) ∧ w0.heap.size ≤ b3 ∧ Hid (1 ≤ ca ∧ ca ≤ 200) ∧ St B [70] w0 wx [(some b3, [.int .i64 8, .int .i64 31, .string a, .string a, .string a, .string ByteArray.empty, .bool false, .bool false, .bool false, .int .i64 1, .int .i64 ca, .int .i64 ca, .int .i64 0, .int .i64 0, .slice none 0 0, .slice none 0 0, .slice none 0 0, .slice none 0 0, .slice none 0 0], 31), (some b2, [.int .i64 16, .int .i64 13, .string a, .string ⟨#[38]⟩, .string ⟨#[38]⟩, .string ByteArray.empty, .bool false, .bool false, .bool false, .int .i64 1, .int .i64 cc, .int .i64 cc, .int .i64 0, .int .i64 0, .slice none 0 0, .slice none 0 0, .slice none 0 0, .slice none 0 0, .slice none 0 0], 31), (some b1, [.int .i64 0, .int .i64 0, .string ByteArray.empty, .string ByteArray.empty, .string ByteArray.empty, .string ByteArray.empty, .bool false, .bool false, .bool false, .int .i64 0, .int .i64 0, .int .i64 0, .int .i64 0, .int .i64 0, .slice none 0 0, .slice none 0 0, .slice none 0 0, .slice none 0 0, .slice none 0 0], 31), (some b0, [.int .i64 kind, .string v, .string a, .string ByteArray.empty, .int .i64 st, .slice p k.len c], 24), (some mb, [.int .i64 1, .int .i64 (col + 1 + 1)], 70)])
  case first =>
    refine wp_plan (fun w => St B [70] w0 w [(some b0, [.int .i64 kind, .string v, .string a, .string ByteArray.empty, .int .i64 st, .slice p k.len c], 24)]) [0, 1, 2] (.q 0 (.q 1 (.q 2 (.e2 3 true (.e2 4 true (.e 5 true (.e 6 false (.fin))) 5 true (.e 4 true (.e 6 false (.fin)))) 5 true (.e 3 true (.e 4 true (.e 6 false (.fin)))))))) mixed (by kernel_rfl) (by kernel_rfl) (by kernel_rfl) (fun d v c a w h => by cases d <;> exact h) (hst.drew.sub (.cons _ (.cons _ (.cons_cons _ (List.nil_sublist _))))) ?_
    replace hst := hst.drew
    repeat ((refine AQ ?_); first | (refine Q1 ?_; go_frame) | (refine QW ?_; go_frame) | (refine QV ?_; go_frame))
    refine at_e2 (by simp only [List.getElem?_toArray, List.getElem?_cons_succ, List.getElem?_cons_zero]; rfl) rfl (by simp only [List.getElem?_toArray, List.getElem?_cons_succ, List.getElem?_cons_zero]; rfl) rfl ?_ ?_
    · (refine e_call (by go_simp <;> first | rfl | exact ⟨rfl, rfl⟩) (place_any B _ mb _ (hst.rebase (L' := [_]) (.cons _ (.cons _ (.cons _ (List.Sublist.refl _)))) rfl) (by omega) (by omega)) ?_; rintro e w1 ⟨ca, hc3, hc4, rfl, h2⟩; have HC2 := Lib.hid (And.intro hc3 hc4); replace hst := St.after (L1 := [_, _, _]) hst h2 rfl rfl (fun _ h => h); simp only [List.cons_append, List.nil_append] at hst; clear hc3 hc4 h2)
      refine ⟨_, rfl, fun _ => hst.sub (.cons _ (.cons _ (.cons_cons _ (List.nil_sublist _)))), ?_⟩
      go_frame
      refine at_e2 (by simp only [List.getElem?_toArray, List.getElem?_cons_succ, List.getElem?_cons_zero]; rfl) rfl (by simp only [List.getElem?_toArray, List.getElem?_cons_succ, List.getElem?_cons_zero]; rfl) rfl ?_ ?_
      · (refine e_call (by go_simp <;> first | rfl | exact ⟨rfl, rfl⟩) (wrNode_any _ 8 31 ca a a (.inl ⟨.inl rfl, rfl⟩)) ?_; rintro e w1 ⟨rfl, hb⟩; replace hst := hst.below hb; clear hb; unfold nval)
        refine ⟨_, rfl, fun _ => hst.sub (.cons _ (.cons _ (.cons_cons _ (List.nil_sublist _)))), ?_⟩
        go_frame
        refine at_e (by simp only [List.getElem?_toArray, List.getElem?_cons_succ, List.getElem?_cons_zero]; rfl) rfl ?_
        refine p_new hst (by go_simp; rfl) ?_
        clear hst
        intro b3 w hb3 hst
        refine ⟨fun _ => hst.sub (.cons _ (.cons _ (.cons _ (.cons_cons _ (List.nil_sublist _))))), ?_⟩
        go_frame
        refine at_e (by simp only [List.getElem?_toArray, List.getElem?_cons_succ, List.getElem?_cons_zero]; rfl) rfl ?_
        (refine EW hst ?_; clear hst; intro w hst; refine ⟨?_, ?_⟩; rotate_left; go_frame)
        · unfold wpP; go_wp2_with fail; go_meet; case rel => exact ⟨b3, ca, rfl, hb3, HC2, hst⟩
        · intro h; cases h
      · refine p_new hst (by go_simp; rfl) ?_
        clear hst
        intro b3 w hb3 hst
        refine ⟨fun _ => hst.sub (.cons _ (.cons _ (.cons _ (.cons_cons _ (List.nil_sublist _))))), ?_⟩
        go_frame
        refine at_e (by simp only [List.getElem?_toArray, List.getElem?_cons_succ, List.getElem?_cons_zero]; rfl) rfl ?_
        (refine e_call (by go_simp <;> first | rfl | exact ⟨rfl, rfl⟩) (wrNode_any _ 8 31 ca a a (.inl ⟨.inl rfl, rfl⟩)) ?_; rintro e w1 ⟨rfl, hb⟩; replace hst := hst.below hb; clear hb; unfold nval)
        refine ⟨_, rfl, fun _ => hst.sub (.cons _ (.cons _ (.cons _ (.cons_cons _ (List.nil_sublist _))))), ?_⟩
        go_frame
        refine at_e (by simp only [List.getElem?_toArray, List.getElem?_cons_succ, List.getElem?_cons_zero]; rfl) rfl ?_
        (refine EW hst ?_; clear hst; intro w hst; refine ⟨?_, ?_⟩; rotate_left; go_frame)
        · unfold wpP; go_wp2_with fail; go_meet; case rel => exact ⟨b3, ca, rfl, hb3, HC2, hst⟩
        · intro h; cases h
    · refine p_new hst (by go_simp; rfl) ?_
      clear hst
      intro b3 w hb3 hst
      refine ⟨fun _ => hst.sub (.cons _ (.cons _ (.cons _ (.cons_cons _ (List.nil_sublist _))))), ?_⟩
      go_frame
      refine at_e (by simp only [List.getElem?_toArray, List.getElem?_cons_succ, List.getElem?_cons_zero]; rfl) rfl ?_
      (refine e_call (by go_simp <;> first | rfl | exact ⟨rfl, rfl⟩) (place_any B _ mb _ (hst.rebase (L' := [_]) (.cons _ (.cons _ (.cons _ (.cons _ (List.Sublist.refl _))))) rfl) (by omega) (by omega)) ?_; rintro e w1 ⟨ca, hc3, hc4, rfl, h2⟩; have HC2 := Lib.hid (And.intro hc3 hc4); replace hst := St.after (L1 := [_, _, _, _]) hst h2 rfl rfl (fun _ h => h); simp only [List.cons_append, List.nil_append] at hst; clear hc3 hc4 h2)
      refine ⟨_, rfl, fun _ => hst.sub (.cons _ (.cons _ (.cons _ (.cons_cons _ (List.nil_sublist _))))), ?_⟩
      go_frame
      refine at_e (by simp only [List.getElem?_toArray, List.getElem?_cons_succ, List.getElem?_cons_zero]; rfl) rfl ?_
      (refine e_call (by go_simp <;> first | rfl | exact ⟨rfl, rfl⟩) (wrNode_any _ 8 31 ca a a (.inl ⟨.inl rfl, rfl⟩)) ?_; rintro e w1 ⟨rfl, hb⟩; replace hst := hst.below hb; clear hb; unfold nval)
      refine ⟨_, rfl, fun _ => hst.sub (.cons _ (.cons _ (.cons _ (.cons_cons _ (List.nil_sublist _))))), ?_⟩
      go_frame
      refine at_e (by simp only [List.getElem?_toArray, List.getElem?_cons_succ, List.getElem?_cons_zero]; rfl) rfl ?_
      (refine EW hst ?_; clear hst; intro w hst; refine ⟨?_, ?_⟩; rotate_left; go_frame)
      · unfold wpP; go_wp2_with fail; go_meet; case rel => exact ⟨b3, ca, rfl, hb3, HC2, hst⟩
      · intro h; cases h
  case rest =>
    clear hst
    obtain ⟨b3, ca, rfl, hb3, HC2, hst⟩ := hcut
    go_upto_region 15 with ((first | ((with_reducible refine at_load ?_); first | refine X1 hst ?_ | refine XW hst ?_) | ((with_reducible refine at_store ?_); (first | refine Y1 hst ?_ | refine YW hst ?_); clear hst; intro w hst)))
    refine wp_plan (fun w => St B [70] w0 w [(some b3, [.int .i64 8, .int .i64 31, .string a, .string a, .string a, .string ByteArray.empty, .bool false, .bool false, .bool false, .int .i64 1, .int .i64 ca, .int .i64 ca, .int .i64 0, .int .i64 0, .slice none 0 0, .slice none 0 0, .slice none 0 0, .slice none 0 0, .slice none 0 0], 31), (some b0, [.int .i64 kind, .string v, .string ByteArray.empty, .string ByteArray.empty, .int .i64 st, .slice p k.len c], 24)]) [0, 1, 2, 5] (.q 0 (.q 1 (.q 2 (.e 3 true (.e 4 true (.q 5 (.e 6 false (.fin)))))))) mixed (by kernel_rfl) (by kernel_rfl) (by kernel_rfl) (fun d v c a w h => by cases d <;> exact h) (hst.drew.sub (.cons_cons _ (.cons _ (.cons _ (.cons_cons _ (List.nil_sublist _)))))) ?_
    replace hst := hst.drew
    repeat ((refine AQ ?_); first | (refine Q1 ?_; go_frame) | (refine QW ?_; go_frame) | (refine QV ?_; go_frame))
    refine at_e (by simp only [List.getElem?_toArray, List.getElem?_cons_succ, List.getElem?_cons_zero]; rfl) rfl ?_
    refine e_call (by go_simp <;> first | rfl | exact ⟨rfl, rfl⟩) (HS.out.1 B mb (col + 1 + 1) p c _ (hst.rebase (L' := [_]) (.cons _ (.cons _ (.cons _ (.cons _ (List.Sublist.refl _))))) rfl) (by omega) (by omega) (TreeOK.bare HS.out.2.1) hkc (HS.out.2.2.hold (TIs.stay hst.kp (by decide) rfl))) ?_
    rintro e w1 ⟨h', k', p', c', col', rfl, hsl, hcc, hst2, hsz, hsz2, hg⟩
    (have hcall := hst; replace hst := St.after (L1 := [_, _, _, _]) hst hst2 rfl rfl (fun _ h => h); simp only [List.cons_append, List.nil_append] at hst; have hwa := St.watchP (L1 := [_, _, _, _]) hst (bs := [b3, b2, b1, b0]) rfl rfl; simp only [List.cons_append, List.nil_append] at hwa; have HQ := Lib.hid (And.intro hcall (And.intro hsl (And.intro hcc (And.intro hsz (And.intro hsz2 (And.intro hg hst)))))); clear hcall hsl hcc hsz hsz2 hg hst hst2; have hst := hwa; clear hwa; unfold nval)
    have hlo : ∀ b ∈ [b3, b2, b1, b0], w0.heap.size ≤ b := by simp; omega
    refine ⟨_, rfl, fun _ => (HQ.out.2.2.2.2.2.2.unwatch hst hlo).sub (.cons_cons _ (.cons _ (.cons _ (.cons_cons _ (List.nil_sublist _))))), ?_⟩
    go_frame
    refine at_e (by simp only [List.getElem?_toArray, List.getElem?_cons_succ, List.getElem?_cons_zero]; rfl) rfl ?_
    refine p_newS hst (by go_simp; first | rfl | exact ⟨⟨rfl, rfl⟩, rfl⟩) ?_
    clear hst
    intro b4 w hb4 hst
    refine ⟨fun _ => (HQ.out.2.2.2.2.2.2.unwatch hst hlo).sub (.cons _ (.cons_cons _ (.cons _ (.cons _ (.cons_cons _ (List.nil_sublist _)))))), ?_⟩
    go_frame
    repeat ((refine AQ ?_); first | (refine Q1 ?_; go_frame) | (refine QW ?_; go_frame) | (refine QV ?_; go_frame))
    refine at_e (by simp only [List.getElem?_toArray, List.getElem?_cons_succ, List.getElem?_cons_zero]; rfl) rfl ?_
    (refine E1 hst ?_; clear hst; intro w hst; refine ⟨?_, ?_⟩; rotate_left; go_frame)
    · unfold wpP
      go_wp2_with ((first | ((with_reducible refine at_load ?_); first | refine X1 hst ?_ | refine XW hst ?_) | ((with_reducible refine at_store ?_); (first | refine Y1 hst ?_ | refine YW hst ?_); clear hst; intro w hst)))
      refine ret_cell hst rfl rfl (by (repeat' (first | exact List.Mem.head _ | apply List.Mem.tail)); done) (by exact agg_of rfl rfl) rfl ?_
      obtain ⟨hcall, hsl, hcc, hsz, hsz2, hg, hst1⟩ := HQ.out
      have h9 := hst1.kp.size
      refine NodeR.anc (h0 := ⟨kind, v, ByteArray.empty, ByteArray.empty, st⟩) ⟨rfl, rfl, rfl⟩ ha (hst.heap (b := b4) (by (repeat' (first | exact List.Mem.head _ | apply List.Mem.tail)); done)) (by omega) HC.out HC2.out (hsl.hold (KidN.stay hcall ⟨_, rfl⟩ hst)) hcc ((hst1.unwatch hst hlo).sub (.cons _ (.cons _ (.cons _ (.cons _ (.cons _ (List.Sublist.refl _))))))) hsz hsz2 hg
    · intro h; cases h
set_option maxRecDepth 100000 in
set_option maxHeartbeats 1000000 in
theorem node2 (v a t : ByteArray) (kind st : Int) (k : F TH) (hk : kind ≠ 4) (ht : t.size ≠ 0) (hN : NodeC 3 ⟨kind, v, a, ByteArray.empty, st⟩ k) : NodeC 4 ⟨kind, v, a, t, st⟩ k := by
  intro B mb col p c w0 hst hc1 hc2 hok hkc hs
  unfold tval
  have HS := Lib.hid (And.intro hN (And.intro hok hs))
  clear hs hN hok
  have hk4 : ((kind : Int) == 4) = false := by simpa using hk
  have ht1 := ne_nil ht
  go_enter Tryz.func26, Tryz.ntmps26
  go_upto_region 6 with ((first | ((with_reducible refine at_load ?_); first | refine X1 hst ?_ | refine XW hst ?_) | ((with_reducible refine at_store ?_); (first | refine Y1 hst ?_ | refine YW hst ?_); clear hst; intro w hst) | ((first | ((with_reducible refine at_alloc ?_); refine ZP hst ?_) | ((with_reducible refine at_box ?_); refine ZP hst ?_) | ((with_reducible refine at_bslice ?_); refine ZS hst ?_)); clear hst; (first | ((fail_if_success have := b0); intro b0 w hb0 hst) | ((fail_if_success have := b1); intro b1 w hb1 hst) | ((fail_if_success have := b2); intro b2 w hb2 hst) | ((fail_if_success have := b3); intro b3 w hb3 hst) | (intro b4 w hb4 hst)))))
  go_cut [6] (fun y wx => ∃ (b2 : Nat) (cc : Int), y = .pointer (some ⟨b2, 0, none⟩) ∧ w0.heap.size ≤ b2 ∧ Hid (1 ≤ cc ∧ cc ≤ 200) ∧ St B [70] w0 wx [(some b2, [.int .i64 19, .int .i64 15, .string t, .string t, .string t, .string ByteArray.empty, .bool false, .bool false, .bool false, .int .i64 1, .int .i64 cc, .int .i64 cc, .int .i64 0, .int .i64 0, .slice none 0 0, .slice none 0 0, .slice none 0 0, .slice none 0 0, .slice none 0 0], 31), (some b1, [.int .i64 0, .int .i64 0, .string ByteArray.empty, .string ByteArray.empty, .string ByteArray.empty, .string ByteArray.empty, .bool false, .bool false, .bool false, .int .i64 0, .int .i64 0, .int .i64 0, .int .i64 0, .int .i64 0, .slice none 0 0, .slice none 0 0, .slice none 0 0, .slice none 0 0, .slice none 0 0], 31), (some b0, [.int .i64 kind, .string v, .string a, .string t, .int .i64 st, .slice p k.len c], 24), (some mb, [.int .i64 1, .int .i64 (col + 1)], 70)])
  case first =>
    refine wp_plan (fun w => St B [70] w0 w [(some b0, [.int .i64 kind, .string v, .string a, .string t, .int .i64 st, .slice p k.len c], 24)]) [0, 1, 2] (.q 0 (.q 1 (.q 2 (.e2 3 true (.e2 4 true (.e 5 true (.e 6 false (.fin))) 5 true (.e 4 true (.e 6 false (.fin)))) 5 true (.e 3 true (.e 4 true (.e 6 false (.fin)))))))) mixed (by kernel_rfl) (by kernel_rfl) (by kernel_rfl) (fun d v c a w h => by cases d <;> exact h) (hst.drew.sub (.cons _ (.cons_cons _ (List.nil_sublist _)))) ?_
    replace hst := hst.drew
    repeat ((refine AQ ?_); first | (refine Q1 ?_; go_frame) | (refine QW ?_; go_frame) | (refine QV ?_; go_frame))
    refine at_e2 (by simp only [List.getElem?_toArray, List.getElem?_cons_succ, List.getElem?_cons_zero]; rfl) rfl (by simp only [List.getElem?_toArray, List.getElem?_cons_succ, List.getElem?_cons_zero]; rfl) rfl ?_ ?_
    · (refine e_call (by go_simp <;> first | rfl | exact ⟨rfl, rfl⟩) (place_any B _ mb _ (hst.rebase (L' := [_]) (.cons _ (.cons _ (List.Sublist.refl _))) rfl) (by omega) (by omega)) ?_; rintro e w1 ⟨cc, hc3, hc4, rfl, h2⟩; have HC := Lib.hid (And.intro hc3 hc4); replace hst := St.after (L1 := [_, _]) hst h2 rfl rfl (fun _ h => h); simp only [List.cons_append, List.nil_append] at hst; clear hc3 hc4 h2)
      refine ⟨_, rfl, fun _ => hst.sub (.cons _ (.cons_cons _ (List.nil_sublist _))), ?_⟩
      go_frame
      refine at_e2 (by simp only [List.getElem?_toArray, List.getElem?_cons_succ, List.getElem?_cons_zero]; rfl) rfl (by simp only [List.getElem?_toArray, List.getElem?_cons_succ, List.getElem?_cons_zero]; rfl) rfl ?_ ?_
      · (refine e_call (by go_simp <;> first | rfl | exact ⟨rfl, rfl⟩) (wrNode_any _ 19 15 cc t t (.inl ⟨.inr rfl, rfl⟩)) ?_; rintro e w1 ⟨rfl, hb⟩; replace hst := hst.below hb; clear hb; unfold nval)
        refine ⟨_, rfl, fun _ => hst.sub (.cons _ (.cons_cons _ (List.nil_sublist _))), ?_⟩
        go_frame
        refine at_e (by simp only [List.getElem?_toArray, List.getElem?_cons_succ, List.getElem?_cons_zero]; rfl) rfl ?_
        refine p_new hst (by go_simp; rfl) ?_
        clear hst
        intro b2 w hb2 hst
        refine ⟨fun _ => hst.sub (.cons _ (.cons _ (.cons_cons _ (List.nil_sublist _)))), ?_⟩
        go_frame
        refine at_e (by simp only [List.getElem?_toArray, List.getElem?_cons_succ, List.getElem?_cons_zero]; rfl) rfl ?_
        (refine EW hst ?_; clear hst; intro w hst; refine ⟨?_, ?_⟩; rotate_left; go_frame)
        · unfold wpP; go_wp2_with fail; go_meet; case rel => exact ⟨b2, cc, rfl, hb2, HC, hst⟩
        · intro h; cases h
      · refine p_new hst (by go_simp; rfl) ?_
        clear hst
        intro b2 w hb2 hst
        refine ⟨fun _ => hst.sub (.cons _ (.cons _ (.cons_cons _ (List.nil_sublist _)))), ?_⟩
        go_frame
        refine at_e (by simp only [List.getElem?_toArray, List.getElem?_cons_succ, List.getElem?_cons_zero]; rfl) rfl ?_
        (refine e_call (by go_simp <;> first | rfl | exact ⟨rfl, rfl⟩) (wrNode_any _ 19 15 cc t t (.inl ⟨.inr rfl, rfl⟩)) ?_; rintro e w1 ⟨rfl, hb⟩; replace hst := hst.below hb; clear hb; unfold nval)
        refine ⟨_, rfl, fun _ => hst.sub (.cons _ (.cons _ (.cons_cons _ (List.nil_sublist _)))), ?_⟩
        go_frame
        refine at_e (by simp only [List.getElem?_toArray, List.getElem?_cons_succ, List.getElem?_cons_zero]; rfl) rfl ?_
        (refine EW hst ?_; clear hst; intro w hst; refine ⟨?_, ?_⟩; rotate_left; go_frame)
        · unfold wpP; go_wp2_with fail; go_meet; case rel => exact ⟨b2, cc, rfl, hb2, HC, hst⟩
        · intro h; cases h
    · refine p_new hst (by go_simp; rfl) ?_
      clear hst
      intro b2 w hb2 hst
      refine ⟨fun _ => hst.sub (.cons _ (.cons _ (.cons_cons _ (List.nil_sublist _)))), ?_⟩
      go_frame
      refine at_e (by simp only [List.getElem?_toArray, List.getElem?_cons_succ, List.getElem?_cons_zero]; rfl) rfl ?_
      (refine e_call (by go_simp <;> first | rfl | exact ⟨rfl, rfl⟩) (place_any B _ mb _ (hst.rebase (L' := [_]) (.cons _ (.cons _ (.cons _ (List.Sublist.refl _)))) rfl) (by omega) (by omega)) ?_; rintro e w1 ⟨cc, hc3, hc4, rfl, h2⟩; have HC := Lib.hid (And.intro hc3 hc4); replace hst := St.after (L1 := [_, _, _]) hst h2 rfl rfl (fun _ h => h); simp only [List.cons_append, List.nil_append] at hst; clear hc3 hc4 h2)
      refine ⟨_, rfl, fun _ => hst.sub (.cons _ (.cons _ (.cons_cons _ (List.nil_sublist _)))), ?_⟩
      go_frame
      refine at_e (by simp only [List.getElem?_toArray, List.getElem?_cons_succ, List.getElem?_cons_zero]; rfl) rfl ?_
      (refine e_call (by go_simp <;> first | rfl | exact ⟨rfl, rfl⟩) (wrNode_any _ 19 15 cc t t (.inl ⟨.inr rfl, rfl⟩)) ?_; rintro e w1 ⟨rfl, hb⟩; replace hst := hst.below hb; clear hb; unfold nval)
      refine ⟨_, rfl, fun _ => hst.sub (.cons _ (.cons _ (.cons_cons _ (List.nil_sublist _)))), ?_⟩
      go_frame
      refine at_e (by simp only [List.getElem?_toArray, List.getElem?_cons_succ, List.getElem?_cons_zero]; rfl) rfl ?_
      (refine EW hst ?_; clear hst; intro w hst; refine ⟨?_, ?_⟩; rotate_left; go_frame)
      · unfold wpP; go_wp2_with fail; go_meet; case rel => exact ⟨b2, cc, rfl, hb2, HC, hst⟩
      · intro h; cases h
  case rest =>
    clear hst
    obtain ⟨b2, cc, rfl, hb2, HC, hst⟩ := hcut
    go_wp2_with ((first | ((with_reducible refine at_load ?_); first | refine X1 hst ?_ | refine XW hst ?_) | ((with_reducible refine at_store ?_); (first | refine Y1 hst ?_ | refine YW hst ?_); clear hst; intro w hst)))
    refine (HS.out.1 B mb (col + 1) p c _ (hst.rebase (L' := [_]) (.cons _ (.cons _ (.cons _ (List.Sublist.refl _)))) rfl) (by omega) (by omega) (TreeOK.bareT HS.out.2.1) hkc (HS.out.2.2.hold (TIs.stay hst.kp (by decide) rfl))).mono ?_
    rintro e w1 ⟨h', k', p', c', col', rfl, hsl, hcc, hst2, hsz, hsz2, hg⟩
    (have hcall := hst; replace hst := St.after (L1 := [_, _, _]) hst hst2 rfl rfl (fun _ h => h); simp only [List.cons_append, List.nil_append] at hst; have hwa := St.watchP (L1 := [_, _, _]) hst (bs := [b2, b1, b0]) rfl rfl; simp only [List.cons_append, List.nil_append] at hwa; have HQ := Lib.hid (And.intro hcall (And.intro hsl (And.intro hcc (And.intro hsz (And.intro hsz2 (And.intro hg hst)))))); clear hcall hsl hcc hsz hsz2 hg hst hst2; have hst := hwa; clear hwa; unfold nval)
    have hlo : ∀ b ∈ [b2, b1, b0], w0.heap.size ≤ b := by simp; omega
    go_wp2_with ((first | ((with_reducible refine at_load ?_); first | refine X1 hst ?_ | refine XW hst ?_) | ((with_reducible refine at_store ?_); (first | refine Y1 hst ?_ | refine YW hst ?_); clear hst; intro w hst) | ((first | ((with_reducible refine at_alloc ?_); refine ZP hst ?_) | ((with_reducible refine at_box ?_); refine ZP hst ?_) | ((with_reducible refine at_bslice ?_); refine ZS hst ?_)); clear hst; (first | ((fail_if_success have := b0); intro b0 w hb0 hst) | ((fail_if_success have := b1); intro b1 w hb1 hst) | ((fail_if_success have := b2); intro b2 w hb2 hst) | ((fail_if_success have := b3); intro b3 w hb3 hst) | (intro b4 w hb4 hst)))))
    refine ret_cell hst rfl rfl (by (repeat' (first | exact List.Mem.head _ | apply List.Mem.tail)); done) (by exact agg_of rfl rfl) rfl ?_
    obtain ⟨hcall, hsl, hcc, hsz, hsz2, hg, hst1⟩ := HQ.out
    have h9 := hst1.kp.size
    refine NodeR.tag (h0 := ⟨kind, v, a, ByteArray.empty, st⟩) ⟨rfl, rfl, rfl⟩ ht (hst.heap (b := b3) (by (repeat' (first | exact List.Mem.head _ | apply List.Mem.tail)); done)) (by omega) HC.out (hsl.hold (KidN.stay hcall ⟨_, rfl⟩ hst)) hcc ((hst1.unwatch hst hlo).sub (.cons _ (.cons _ (.cons _ (.cons _ (List.Sublist.refl _)))))) hsz hsz2 hg
end Go.Proofs.YtpajcfkldnbpfaaGreatDoor
