/- The nodes of lists. The nodes of mappings. -/
import Derived.Test.YtpajcfkldnbpfaaGreatDoorV11
set_option linter.unusedSimpArgs false
set_option linter.unusedVariables false
namespace Go.Proofs.YtpajcfkldnbpfaaGreatDoor
open Go.RowKit
structure LInv (w0 wx : World) (bs : List Nat) (col : Int) (k : F TH) (m : Nat) (fo : F NH) (oid2 : Option Nat) (cap2 : Nat) (xs2 sp2 : List Value) (col2 : Int) : Prop where
  len : fo.len = m
  gr : Gr 19 oid2 m cap2 xs2 sp2
  row : Row NS (KdN w0.heap.size bs oid2) wx (xs2 ++ sp2) fo
  size : (fo.size : Int) = col2 - (col + 1)
  most : fo.size ≤ 6 * (k.take m).size
  good : k.all NoPlus → fo.all NOK
theorem F.size_take {H : Type} : ∀ (f : F H) (m : Nat), (f.take m).size ≤ f.size
  | f, 0 => by simp [F.take, F.size]
  | .nil, _ + 1 => by simp [F.take]
  | .cons h k r, m + 1 => by have := F.size_take r m; simp only [F.take, F.size]; omega
theorem F.size_take_succ {H : Type} {f : F H} {m : Nat} {x : H} {k : F H} (h : f.get m = some (x, k)) : (f.take (m + 1)).size = (f.take m).size + k.size + 1 := by rw [F.take_succ h, F.size_snoc]
theorem F.len_le {H : Type} (f : F H) : f.len ≤ f.size := F.len_le_size f
theorem Sl.at3 {H : Type} {S : Shp H} {A : Nat → Nat → Prop} {w : World} {p : Option Addr} {f : F H} (h : Sl S A w p f) {i : Nat} {x : H} {k : F H} (hg : f.get i = some (x, k)) :
    ∃ b o q cap cs t fr, p = some ⟨b, o, none⟩ ∧ k.len ≤ cap ∧ Sl S A w q k ∧ A b t ∧ w.heap[b]? = some (.cells cs t fr) ∧ ∀ j v, (S.C x (.slice q k.len cap))[j]? = some v → w.cell? ⟨b, o + i * S.n + j, none⟩ = some v := by
  rcases h with h | ⟨b, o, cs, t, fr, hp, hb, hA, hR⟩
  · have := F.lt_of_get hg; omega
  · obtain ⟨q, cap, h1, h2, h3⟩ := hR.at hg
    refine ⟨b, o, q, cap, cs, t, fr, hp, h1, h2, hA, hb, fun j v hv => ?_⟩
    have := h3 j v hv
    simp only [World.cell?, hb]
    rw [List.getElem?_drop] at this
    simpa [Nat.add_assoc] using this
theorem Kp.cell {B : Nat} {Ts : Ch} {w0 w : World} (h : Kp B Ts w0 w) {b t : Nat} {cs : Array Value} {fr : Nat × Nat} (hb : w0.heap[b]? = some (.cells cs t fr)) (ht : t ∉ Ts.ts) (hn : b ∉ Ts.bs) {off : Nat} {v : Value} (hv : w0.cell? ⟨b, off, none⟩ = some v) : w.cell? ⟨b, off, none⟩ = some v := by
  have h1 := h.typ b cs t fr hb ht hn
  simp only [World.cell?, hb] at hv
  simp only [World.cell?, h1]
  exact hv
theorem KdN.sl {B : Nat} {w0 w : World} {L : Rws} {oid : Option Nat} {n cap : Nat} {xs sp : List Value} {bs : List Nat} {fo : F NH} (hst : St B [70] w0 w L) (hm : (oid, xs ++ sp, 31) ∈ L) (hgr : Gr 19 oid n cap xs sp) (hl : fo.len = n) (h : Row NS (KdN w0.heap.size bs oid) w (xs ++ sp) fo) : Sl NS (NewN w0.heap.size) w (slP oid) fo := by
  cases oid with
  | none => exact .inl (by have := hgr.nil rfl; have := hgr.le; omega)
  | some g => exact .inr ⟨g, 0, _, _, _, rfl, hst.heap hm, ⟨(hst.loN (bs := []) (oid := some g) hm (by simp)) g (by simp), rfl⟩, Row.hold (A := KdN w0.heap.size bs (some g)) (fun b cs t fr ha hb => ⟨hb, ha.1, ha.2.1⟩) (by simpa using h)⟩
theorem F.all_snocN {p : NH → F NH → Prop} {f : F NH} {h : NH} {k : F NH} (h1 : f.all p) (h2 : p h k) (h3 : k.all p) : (f.snoc h k).all p := (F.all_snoc f h k).2 ⟨h1, h2, h3⟩
set_option maxRecDepth 100000 in
set_option maxHeartbeats 1000000 in
theorem list_n (v a t : ByteArray) (st : Int) (k : F TH) (hN : ∀ h' k', k'.size < k.size → NodeC 4 h' k') : ∀ (B mb : Nat) (col : Int) (p : Option Addr) (c : Nat) (w : World), St B [70] w w [(some mb, [.int .i64 1, .int .i64 col], 70)] → 1 ≤ col → col + 6 * k.size + 1 ≤ 890 → TreeOK ⟨2, v, a, t, st⟩ k → k.len ≤ c → Sl TS (fun _ t => t = 24) w p k →
  Calls Tryz.prog 52 #[.pointer (some ⟨mb, 0, none⟩), tval ⟨2, v, a, t, st⟩ (.slice p k.len c)] w (NodeR 1 ⟨2, v, a, t, st⟩ k B mb col w) := by
  intro B mb col p c w0 hst hc1 hc2 hok hkc hs
  unfold tval
  have HS := Lib.hid (And.intro hN (And.intro hok hs))
  clear hs hN hok
  have hkl : (k.len : Int) ≤ 150 := by have := F.len_le_size k; omega
  generalize hfl : (st == 2) = flow
  go_enter Tryz.func52, Tryz.ntmps52
  go_wp2_with ((first | ((with_reducible refine at_load ?_); first | refine X1 hst ?_ | refine XW hst ?_) | ((with_reducible refine at_store ?_); (first | refine Y1 hst ?_ | refine YW hst ?_); clear hst; intro w hst) | ((first | ((with_reducible refine at_alloc ?_); refine ZP hst ?_) | ((with_reducible refine at_box ?_); refine ZP hst ?_) | ((with_reducible refine at_bslice ?_); refine ZS hst ?_)); clear hst; (first | ((fail_if_success have := b0); intro b0 w hb0 hst) | ((fail_if_success have := b1); intro b1 w hb1 hst) | ((fail_if_success have := b2); intro b2 w hb2 hst) | ((fail_if_success have := b3); intro b3 w hb3 hst) | ((fail_if_success have := b4); intro b4 w hb4 hst) | (intro b5 w hb5 hst)))))
  (refine (place_any B _ mb _ (hst.rebase (L' := [_]) (.cons _ (.cons _ (List.Sublist.refl _))) rfl) (by omega) (by omega)).mono ?_; rintro e w1 ⟨cc, hc3, hc4, rfl, h2⟩; have HC := Lib.hid (And.intro hc3 hc4); replace hst := St.after (L1 := [_, _]) hst h2 rfl rfl (fun _ h => h); simp only [List.cons_append, List.nil_append] at hst; clear hc3 hc4 h2)
  go_wp2_with ((first | ((with_reducible refine at_load ?_); first | refine X1 hst ?_ | refine XW hst ?_) | ((with_reducible refine at_store ?_); (first | refine Y1 hst ?_ | refine YW hst ?_); clear hst; intro w hst) | ((first | ((with_reducible refine at_alloc ?_); refine ZP hst ?_) | ((with_reducible refine at_box ?_); refine ZP hst ?_) | ((with_reducible refine at_bslice ?_); refine ZS hst ?_)); clear hst; (first | ((fail_if_success have := b0); intro b0 w hb0 hst) | ((fail_if_success have := b1); intro b1 w hb1 hst) | ((fail_if_success have := b2); intro b2 w hb2 hst) | ((fail_if_success have := b3); intro b3 w hb3 hst) | ((fail_if_success have := b4); intro b4 w hb4 hst) | (intro b5 w hb5 hst)))))
  (refine (wrNode_any _ 14 3 cc ⟨#[45]⟩ ByteArray.empty (.inr ⟨by decide, by decide, rfl⟩)).mono ?_; rintro e w1 ⟨rfl, hb⟩; replace hst := hst.below hb; clear hb; unfold nval)
  go_upto_if 22 with ((first | ((with_reducible refine at_load ?_); first | refine X1 hst ?_ | refine XW hst ?_) | ((with_reducible refine at_store ?_); (first | refine Y1 hst ?_ | refine YW hst ?_); clear hst; intro w hst) | ((first | ((with_reducible refine at_alloc ?_); refine ZP hst ?_) | ((with_reducible refine at_box ?_); refine ZP hst ?_) | ((with_reducible refine at_bslice ?_); refine ZS hst ?_)); clear hst; (first | ((fail_if_success have := b0); intro b0 w hb0 hst) | ((fail_if_success have := b1); intro b1 w hb1 hst) | ((fail_if_success have := b2); intro b2 w hb2 hst) | ((fail_if_success have := b3); intro b3 w hb3 hst) | ((fail_if_success have := b4); intro b4 w hb4 hst) | (intro b5 w hb5 hst)))))
  go_cut [6] (fun y wx => y = .pointer (some ⟨b2, 0, none⟩) ∧ ∃ (ty : Int) (te : ByteArray), St B [70] w0 wx [(some b2, [.int .i64 14, .int .i64 ty, .string ByteArray.empty, .string te, .string te, .string ByteArray.empty, .bool false, .bool false, .bool false, .int .i64 1, .int .i64 cc, .int .i64 cc, .int .i64 0, .int .i64 0, .slice none 0 0, .slice none 0 0, .slice none 0 0, .slice none 0 0, .slice none 0 0], 31), (some b1, [.int .i64 0, .int .i64 0, .string ByteArray.empty, .string ByteArray.empty, .string ByteArray.empty, .string ByteArray.empty, .bool false, .bool false, .bool false, .int .i64 0, .int .i64 0, .int .i64 0, .int .i64 0, .int .i64 0, .slice none 0 0, .slice none 0 0, .slice none 0 0, .slice none 0 0, .slice none 0 0], 31), (some b0, [.int .i64 2, .string v, .string a, .string t, .int .i64 st, .slice p k.len c], 24), (some mb, [.int .i64 1, .int .i64 (col + 1)], 70)])
  case first =>
    cases flow
    · go_wp2_with ((first | ((with_reducible refine at_load ?_); first | refine X1 hst ?_ | refine XW hst ?_) | ((with_reducible refine at_store ?_); (first | refine Y1 hst ?_ | refine YW hst ?_); clear hst; intro w hst)))
      go_meet
      case rel => exact ⟨rfl, _, _, hst⟩
    · go_wp2_with ((first | ((with_reducible refine at_load ?_); first | refine X1 hst ?_ | refine XW hst ?_) | ((with_reducible refine at_store ?_); (first | refine Y1 hst ?_ | refine YW hst ?_); clear hst; intro w hst)))
      go_meet
      case rel => exact ⟨rfl, _, _, hst⟩
  case rest =>
  clear hst
  obtain ⟨rfl, ty, te, hst⟩ := hcut
  go_wp2_with ((first | ((with_reducible refine at_load ?_); first | refine X1 hst ?_ | refine XW hst ?_) | ((with_reducible refine at_store ?_); (first | refine Y1 hst ?_ | refine YW hst ?_); clear hst; intro w hst)))
  go_loopw [31] (fun i wx => ∃ m : Nat, i = .int .i64 m ∧ ∃ (fo : F NH) (oid2 : Option Nat) (cap2 : Nat) (xs2 sp2 : List Value) (col2 : Int), Hid (LInv w0 wx [b2, b1, b0] col k m fo oid2 cap2 xs2 sp2 col2) ∧ m ≤ k.len ∧ Hid (St B [70] w0 wx [(some b2, [.int .i64 14, .int .i64 ty, .string ByteArray.empty, .string te, .string te, .string ByteArray.empty, .bool flow, .bool false, .bool false, .int .i64 1, .int .i64 cc, .int .i64 cc, .int .i64 0, .int .i64 0, .slice none 0 0, .slice none 0 0, .slice none 0 0, .slice none 0 0, .slice (slP oid2) m cap2], 31), (some b1, [.int .i64 0, .int .i64 0, .string ByteArray.empty, .string ByteArray.empty, .string ByteArray.empty, .string ByteArray.empty, .bool false, .bool false, .bool false, .int .i64 0, .int .i64 0, .int .i64 0, .int .i64 0, .int .i64 0, .slice none 0 0, .slice none 0 0, .slice none 0 0, .slice none 0 0, .slice none 0 0], 31), (some b0, [.int .i64 2, .string v, .string a, .string t, .int .i64 st, .slice p k.len c], 24), (oid2, xs2 ++ sp2, 31), (some mb, [.int .i64 1, .int .i64 col2], 70)])) (fun i _ => k.len - (intOf i).toNat)
  case atStart => exact ⟨0, rfl, .nil, none, 0, [], [], col + 1, Lib.hid ⟨rfl, Gr.empty 19, trivial, by simp [F.size], by simp [F.size], fun _ => trivial⟩, Nat.zero_le _, Lib.hid ((hst.addNone [] 31).perm (List.perm_append_comm (l₁ := [_]) (l₂ := [_, _, _])|>.append_right [_]))⟩
  case round =>
    clear hst
    obtain ⟨m, rfl, fo, oid2, cap2, xs2, sp2, col2, HI, hmle, HL⟩ := hrel
    have hst := HL.out
    clear HL
    by_cases hm : (m : Int) < k.len
    · obtain ⟨x, kk, hg⟩ := F.get_lt (f := k) (i := m) (by omega)
      have HX := Lib.hid hg
      clear hg
      obtain ⟨pb, po, q, capq, cs, tq, fr, rfl, hcap, hslq, htq, hhp, hcc⟩ := Sl.at3 HS.out.2.2 HX.out
      have hkp := hst.kp
      have hcell : ∀ (j : Nat) (v : Value), ([.int .i64 x.kind, .string x.v, .string x.a, .string x.t, .int .i64 x.st, .slice q kk.len capq] : List Value)[j]? = some v → wr.cell? ⟨pb, po + m * 6 + j, none⟩ = some v := fun j v hv => hkp.cell hhp (by rw [htq]; exact (by decide : 24 ∉ [70])) (by exact List.not_mem_nil) (hcc j v hv)
      have HCC := Lib.hid (And.intro hcap (And.intro hslq hcell))
      clear hcap hslq hcc hcell hkp hhp htq
      have hsz := F.size_get HX.out
      have htk := F.size_take_succ HX.out
      have htl := F.size_take k (m + 1)
      have hcb := HI.out.size
      have hcb2 := HI.out.most
      have hwa := St.watchP (L1 := [_, _, _, _]) hst (bs := [b2, b1, b0] ++ oid2.toList) (by cases oid2 <;> rfl) rfl
      simp only [List.cons_append, List.nil_append] at hwa
      have HST := Lib.hid hst
      have hlo := hst.kp.size
      clear hst
      have hst := hwa
      clear hwa
      go_upto_region 10 with (first | ((with_reducible refine at_load ?_); refine wl_ldc (vs := [.int .i64 x.kind, .string x.v, .string x.a, .string x.t, .int .i64 x.st, .slice q kk.len capq]) rfl rfl rfl HCC.out.2.2 (by exact agg_of rfl rfl) ?_) | (first | ((with_reducible refine at_load ?_); first | refine X1 hst ?_ | refine XW hst ?_) | ((with_reducible refine at_store ?_); (first | refine Y1 hst ?_ | refine YW hst ?_); clear hst; intro w hst) | ((first | ((with_reducible refine at_alloc ?_); refine ZP hst ?_) | ((with_reducible refine at_box ?_); refine ZP hst ?_) | ((with_reducible refine at_bslice ?_); refine ZS hst ?_)); clear hst; (first | ((fail_if_success have := b0); intro b0 w hb0 hst) | ((fail_if_success have := b1); intro b1 w hb1 hst) | ((fail_if_success have := b2); intro b2 w hb2 hst) | ((fail_if_success have := b3); intro b3 w hb3 hst) | ((fail_if_success have := b4); intro b4 w hb4 hst) | (intro b5 w hb5 hst)))))
      have hrow := HI.out.row.hold (KdN.hold2 (lo := w0.heap.size) (nb := [b3]) (bs := [b2, b1, b0]) hst (in_bs (bs := [b2, b1, b0])) (by simpa using hb3))
      replace hst := HST.out.unwatch hst (HST.out.loN (bs := [b2, b1, b0]) (by (repeat' (first | exact List.Mem.head _ | apply List.Mem.tail)); done) (by simp; omega))
      have HRO := Lib.hid hrow
      clear hrow
      have hxok := F.all_get HS.out.2.1.2 HX.out
      have HXO := Lib.hid hxok
      clear hxok
      refine wp_plan (fun w => St B [70] w0 w [(some b3, [.int .i64 x.kind, .string x.v, .string x.a, .string x.t, .int .i64 x.st, .slice q kk.len capq], 24), (some b2, [.int .i64 14, .int .i64 ty, .string ByteArray.empty, .string te, .string te, .string ByteArray.empty, .bool flow, .bool false, .bool false, .int .i64 1, .int .i64 cc, .int .i64 cc, .int .i64 0, .int .i64 0, .slice none 0 0, .slice none 0 0, .slice none 0 0, .slice none 0 0, .slice (slP oid2) m cap2], 31)]) [0, 1, 2, 3] (.q 0 (.q 1 (.q 2 (.q 3 (.e 4 true (.e 5 true (.e 6 true (.e 7 false (.e 8 false (.fin)))))))))) mixed (by kernel_rfl) (by kernel_rfl) (by kernel_rfl) (fun d v c a w h => by cases d <;> exact h) (hst.drew.sub (.cons_cons _ (.cons_cons _ (List.nil_sublist _)))) ?_
      replace hst := hst.drew
      repeat ((refine AQ ?_); first | (refine Q1 ?_; go_frame) | (refine QW ?_; go_frame) | (refine QV ?_; go_frame))
      refine at_e (by simp only [List.getElem?_toArray, List.getElem?_cons_succ, List.getElem?_cons_zero]; rfl) rfl ?_
      refine e_call (by go_simp <;> first | rfl | exact ⟨rfl, rfl⟩) (HS.out.1 x kk hsz B mb col2 q capq _ (hst.rebase (L' := [_]) (.cons _ (.cons _ (.cons _ (.cons _ (.cons _ (List.Sublist.refl _)))))) rfl) (by omega) (by omega) HXO.out HCC.out.1 (HCC.out.2.1.hold (TIs.stay hst.kp (by decide) rfl))) ?_
      rintro e w1 ⟨h', k', p', c', col', rfl, hsl, hcc, hst2, hz, hz2, hg⟩
      have hsl2 := hsl.hold (KdN.new (bs := [b3, b2, b1, b0]) (oid := oid2) hst ⟨_, rfl⟩)
      have hrow := HRO.out.hold (Hold.drew.trans (KdN.call hst2.kp))
      replace hst := St.after (L1 := [_, _, _, _, _]) hst hst2 rfl rfl (fun _ h => h)
      simp only [List.cons_append, List.nil_append] at hst
      have hwa := St.watchP (L1 := [_, _, _, _, _]) (L2 := [_]) hst (bs := [b3, b2, b1, b0] ++ oid2.toList) (by cases oid2 <;> rfl) rfl
      simp only [List.cons_append, List.nil_append] at hwa
      have hinv : ∀ w L, St B ⟨[70], [b3, b2, b1, b0] ++ oid2.toList⟩ w1 w L → St B [70] w0 w L := fun w L h => hst.unwatch h (hst.loN (bs := [b3, b2, b1, b0]) (by (repeat' (first | exact List.Mem.head _ | apply List.Mem.tail)); done) (by simp; omega))
      have HQ := Lib.hid (And.intro hsl2 (And.intro hrow (And.intro hcc (And.intro hz (And.intro hz2 (And.intro hg hinv))))))
      clear hsl hsl2 hrow hcc hst2 hz hz2 hg hst hinv
      have hst := hwa.perm (List.perm_append_comm (l₁ := [_, _, _, _]) (l₂ := [_])|>.append_right [_])
      simp only [List.cons_append, List.nil_append] at hst
      clear hwa
      refine ⟨_, rfl, fun _ => (HQ.out.2.2.2.2.2.2 _ _ hst).sub (.cons _ (.cons_cons _ (.cons_cons _ (List.nil_sublist _)))), ?_⟩
      unfold nval
      go_frame
      refine at_e (by simp only [List.getElem?_toArray, List.getElem?_cons_succ, List.getElem?_cons_zero]; rfl) rfl ?_
      refine p_newS hst (by go_simp; first | rfl | exact ⟨⟨rfl, rfl⟩, rfl⟩) ?_
      clear hst
      intro b4 w hb4 hst
      refine ⟨fun _ => (HQ.out.2.2.2.2.2.2 _ _ hst).sub (.cons _ (.cons _ (.cons_cons _ (.cons_cons _ (List.nil_sublist _))))), ?_⟩
      go_frame
      refine at_e (by simp only [List.getElem?_toArray, List.getElem?_cons_succ, List.getElem?_cons_zero]; rfl) rfl ?_
      refine p_appH hst rfl rfl rfl (by first | exact el213 | exact el22 | exact el28 | exact el29 | exact el48 | exact el52 | exact el134 | exact el146 | exact el205) HI.out.gr (by decide) (by decide) rfl rfl (by omega) (by simp only [maxLen]; omega) ?_
      clear hst
      intro oid3 cap3 sp3 w hst hgr3 hno
      refine ⟨fun _ => (HQ.out.2.2.2.2.2.2 _ _ hst).sub (.cons _ (.cons_cons _ (.cons_cons _ (List.nil_sublist _)))), ?_⟩
      go_frame
      refine at_e (by simp only [List.getElem?_toArray, List.getElem?_cons_succ, List.getElem?_cons_zero]; rfl) rfl ?_
      refine e_val (by go_simp; first | rfl | exact ⟨rfl, rfl⟩) (fun h => by cases h) ?_
      go_frame
      refine at_e (by simp only [List.getElem?_toArray, List.getElem?_cons_succ, List.getElem?_cons_zero]; rfl) rfl ?_
      (refine E1 hst ?_; clear hst; intro w hst; refine ⟨?_, ?_⟩; rotate_left; go_frame)
      · unfold wpP
        go_wp2_with fail
        go_round
        case rel =>
          obtain ⟨hsl, hrow, hcc, hz, hz2, hg, hinv⟩ := HQ.out
          have hH := KdN.hold (lo := w0.heap.size) (lo' := w0.heap.size) (bs := [b3, b2, b1, b0]) (oid := oid2) (oid3 := oid3) hst (by (repeat' (first | exact List.Mem.head _ | apply List.Mem.tail)); done) (in_bs (bs := [b3, b2, b1, b0])) (Nat.le_refl _)
          have hrow2 : Row NS (KdN w0.heap.size [b3, b2, b1, b0] oid3) w ((xs2 ++ nL h' (.slice p' k'.len c')) ++ sp3) (fo.snoc h' k') := Row.snoc (h := h') (hrow.hold hH) (by rw [HI.out.gr.len, HI.out.len]; rfl) sp3 hcc (hsl.hold hH)
          have hrow3 := hrow2.hold (KdN.less (bs' := [b2, b1, b0]) (by simp))
          have hgo : k.all NoPlus → (fo.snoc h' k').all NOK := fun hp => by
            have h1 := F.all_get hp HX.out
            have h2 := hg.1 h1.1 h1.2
            exact F.all_snocN (HI.out.good hp) h2.1 h2.2
          refine ⟨m + 1, by rw [show (m : Int) + 1 = ((m + 1 : Nat) : Int) by omega], fo.snoc h' k', oid3, cap3, _, sp3, col', Lib.hid ⟨by rw [F.len_snoc, HI.out.len], hgr3, hrow3, by rw [F.size_snoc]; omega, by rw [F.size_snoc, htk]; omega, hgo⟩, by omega, Lib.hid ?_⟩
          exact ((hinv _ _ hst).sub (.cons_cons _ (.cons _ (List.Sublist.refl _)))).perm ((List.perm_append_comm (l₁ := [_]) (l₂ := [_, _, _])).append_right [_])
        case measure => simp [intOf]; omega
      · intro h; cases h
    · have hmk : m = k.len := by omega
      subst hmk
      have hwa := St.watchP (L1 := [_, _, _, _]) hst (bs := [b2, b1, b0] ++ oid2.toList) (by cases oid2 <;> rfl) rfl
      simp only [List.cons_append, List.nil_append] at hwa
      have HST := Lib.hid hst
      clear hst
      have hst := hwa
      clear hwa
      go_wp2_with ((first | ((with_reducible refine at_load ?_); first | refine X1 hst ?_ | refine XW hst ?_) | ((with_reducible refine at_store ?_); (first | refine Y1 hst ?_ | refine YW hst ?_); clear hst; intro w hst)))
      refine ret_cell hst rfl rfl (by (repeat' (first | exact List.Mem.head _ | apply List.Mem.tail)); done) (by exact agg_of rfl rfl) rfl ?_
      obtain ⟨hlen, hgr, hrow, hsz, hmo, hgo⟩ := HI.out
      rw [F.take_len] at hmo
      have hrow2 := hrow.hold (KdN.hold2 (lo := w0.heap.size) (nb := []) (bs := [b2, b1, b0]) hst (in_bs (bs := [b2, b1, b0])) (by simp))
      have hun := HST.out.unwatch hst (HST.out.loN (bs := [b2, b1, b0]) (by (repeat' (first | exact List.Mem.head _ | apply List.Mem.tail)); done) (by simp; omega))
      have hsl := KdN.sl hun (by (repeat' (first | exact List.Mem.head _ | apply List.Mem.tail)); done) hgr hlen hrow2
      rw [← hlen]
      exact ⟨⟨14, ty, ByteArray.empty, te, flow, cc, cc⟩, fo, slP oid2, cap2, col2, rfl, hsl, by rw [hlen]; exact hgr.le, hun.sub (.cons _ (.cons _ (.cons _ (.cons _ (List.Sublist.refl _))))), by omega, by omega, fun _ hp => ⟨⟨HC.out.1, HC.out.2, rfl, .inr (.inr (.inr (.inr (.inl ⟨rfl, rfl⟩))))⟩, hgo hp⟩, fun h => absurd h (by decide : ¬ (2 : Int) = 1)⟩
end Go.Proofs.YtpajcfkldnbpfaaGreatDoor
namespace Go.Proofs.YtpajcfkldnbpfaaGreatDoor
open Go.RowKit
theorem PairsOK.at : ∀ {k : F TH} (_ : PairsOK k) (m : Nat), 2 * m < k.len → ∃ x, k.get (2 * m) = some (x, .nil) ∧ KeyOK x .nil ∧ 2 * m + 1 < k.len
  | .cons h kk (.cons h2 k2 r), ⟨h1, h3⟩, 0, _ => by
    obtain rfl := h1.1.2.1
    exact ⟨h, rfl, h1, by simp [F.len]⟩
  | .cons h kk (.cons h2 k2 r), ⟨h1, h3⟩, m + 1, hl => by
    obtain ⟨x, e1, e2, e3⟩ := PairsOK.at h3 m (by simp only [F.len] at hl; omega)
    exact ⟨x, by rw [show 2 * (m + 1) = 2 * m + 1 + 1 by omega]; exact e1, e2, by simp only [F.len]; omega⟩
theorem PairsOK.even : ∀ {k : F TH}, PairsOK k → ∃ n, k.len = 2 * n
  | .nil, _ => ⟨0, rfl⟩
  | .cons _ _ (.cons _ _ r), ⟨_, h⟩ => by
    obtain ⟨n, e⟩ := PairsOK.even h
    exact ⟨n + 1, by simp only [F.len]; omega⟩
theorem allTop_snoc {p : NH → Prop} {x : NH} {kx : F NH} (hx : p x) : ∀ {f : F NH}, allTop p f → allTop p (f.snoc x kx)
  | .nil, _ => ⟨hx, trivial⟩
  | .cons _ _ _, ⟨h1, h2⟩ => ⟨h1, allTop_snoc hx h2⟩
structure PInv (w0 wx : World) (bs : List Nat) (col : Int) (k : F TH) (m : Nat) (fo : F NH) (oid2 : Option Nat) (cap2 : Nat) (xs2 sp2 : List Value) (col2 : Int) : Prop where
  len : fo.len = m
  gr : Gr 19 oid2 m cap2 xs2 sp2
  row : Row NS (KdN w0.heap.size bs oid2) wx (xs2 ++ sp2) fo
  size : (fo.size : Int) = col2 - (col + 1)
  most : fo.size ≤ 6 * (k.take (2 * m)).size
  top : allTop (fun x => x.kind = 13) fo
  good : k.all NoPlus → fo.all NOK
set_option maxRecDepth 100000 in
set_option maxHeartbeats 2000000 in
theorem pairs_n (v a t : ByteArray) (st : Int) (k : F TH) (hN : ∀ h' k', k'.size < k.size → NodeC 4 h' k') : ∀ (B mb : Nat) (col : Int) (p : Option Addr) (c : Nat) (w : World), St B [70] w w [(some mb, [.int .i64 1, .int .i64 col], 70)] → 1 ≤ col → col + 6 * k.size + 1 ≤ 890 → TreeOK ⟨3, v, a, t, st⟩ k → k.len ≤ c → Sl TS (fun _ t => t = 24) w p k →
  Calls Tryz.prog 52 #[.pointer (some ⟨mb, 0, none⟩), tval ⟨3, v, a, t, st⟩ (.slice p k.len c)] w (NodeR 1 ⟨3, v, a, t, st⟩ k B mb col w) := by
  intro B mb col p c w0 hst hc1 hc2 hok hkc hs
  have hpk : PairsOK k := by
    obtain ⟨⟨-, -, -, h⟩, -⟩ := hok
    rcases h with h | h | h | h
    · exact absurd h.1 (by decide : ¬ (3 : Int) = 1)
    · exact absurd h (by decide : ¬ (3 : Int) = 2)
    · exact h.2
    · exact absurd h.1 (by decide : ¬ (3 : Int) = 4)
  unfold tval
  have HS := Lib.hid (And.intro hN (And.intro hok (And.intro hs hpk)))
  clear hs hN hok hpk
  have hkl : (k.len : Int) ≤ 150 := by have := F.len_le_size k; omega
  generalize hfl : (st == 2) = flow
  go_enter Tryz.func52, Tryz.ntmps52
  go_wp2_with ((first | ((with_reducible refine at_load ?_); first | refine X1 hst ?_ | refine XW hst ?_) | ((with_reducible refine at_store ?_); (first | refine Y1 hst ?_ | refine YW hst ?_); clear hst; intro w hst) | ((first | ((with_reducible refine at_alloc ?_); refine ZP hst ?_) | ((with_reducible refine at_box ?_); refine ZP hst ?_) | ((with_reducible refine at_bslice ?_); refine ZS hst ?_)); clear hst; (first | ((fail_if_success have := b0); intro b0 w hb0 hst) | ((fail_if_success have := b1); intro b1 w hb1 hst) | ((fail_if_success have := b2); intro b2 w hb2 hst) | ((fail_if_success have := b3); intro b3 w hb3 hst) | ((fail_if_success have := b4); intro b4 w hb4 hst) | ((fail_if_success have := b5); intro b5 w hb5 hst) | (intro b6 w hb6 hst)))))
  (refine (place_any B _ mb _ (hst.rebase (L' := [_]) (.cons _ (.cons _ (List.Sublist.refl _))) rfl) (by omega) (by omega)).mono ?_; rintro e w1 ⟨cc, hc3, hc4, rfl, h2⟩; have HC := Lib.hid (And.intro hc3 hc4); replace hst := St.after (L1 := [_, _]) hst h2 rfl rfl (fun _ h => h); simp only [List.cons_append, List.nil_append] at hst; clear hc3 hc4 h2)
  go_wp2_with ((first | ((with_reducible refine at_load ?_); first | refine X1 hst ?_ | refine XW hst ?_) | ((with_reducible refine at_store ?_); (first | refine Y1 hst ?_ | refine YW hst ?_); clear hst; intro w hst) | ((first | ((with_reducible refine at_alloc ?_); refine ZP hst ?_) | ((with_reducible refine at_box ?_); refine ZP hst ?_) | ((with_reducible refine at_bslice ?_); refine ZS hst ?_)); clear hst; (first | ((fail_if_success have := b0); intro b0 w hb0 hst) | ((fail_if_success have := b1); intro b1 w hb1 hst) | ((fail_if_success have := b2); intro b2 w hb2 hst) | ((fail_if_success have := b3); intro b3 w hb3 hst) | ((fail_if_success have := b4); intro b4 w hb4 hst) | ((fail_if_success have := b5); intro b5 w hb5 hst) | (intro b6 w hb6 hst)))))
  (refine (wrNode_any _ 11 10 cc ⟨#[123]⟩ ByteArray.empty (.inr ⟨by decide, by decide, rfl⟩)).mono ?_; rintro e w1 ⟨rfl, hb⟩; replace hst := hst.below hb; clear hb; unfold nval)
  go_wp2_with ((first | ((with_reducible refine at_load ?_); first | refine X1 hst ?_ | refine XW hst ?_) | ((with_reducible refine at_store ?_); (first | refine Y1 hst ?_ | refine YW hst ?_); clear hst; intro w hst) | ((first | ((with_reducible refine at_alloc ?_); refine ZP hst ?_) | ((with_reducible refine at_box ?_); refine ZP hst ?_) | ((with_reducible refine at_bslice ?_); refine ZS hst ?_)); clear hst; (first | ((fail_if_success have := b0); intro b0 w hb0 hst) | ((fail_if_success have := b1); intro b1 w hb1 hst) | ((fail_if_success have := b2); intro b2 w hb2 hst) | ((fail_if_success have := b3); intro b3 w hb3 hst) | ((fail_if_success have := b4); intro b4 w hb4 hst) | ((fail_if_success have := b5); intro b5 w hb5 hst) | (intro b6 w hb6 hst)))))
  go_loopw [10] (fun i wx => ∃ n m : Nat, i = .int .i64 n ∧ n = 2 * m ∧ ∃ (fo : F NH) (oid2 : Option Nat) (cap2 : Nat) (xs2 sp2 : List Value) (col2 : Int), Hid (PInv w0 wx [b2, b1, b0] col k m fo oid2 cap2 xs2 sp2 col2) ∧ n ≤ k.len ∧ Hid (St B [70] w0 wx [(some b2, [.int .i64 11, .int .i64 10, .string ByteArray.empty, .string ⟨#[123]⟩, .string ⟨#[123]⟩, .string ByteArray.empty, .bool flow, .bool false, .bool false, .int .i64 1, .int .i64 cc, .int .i64 cc, .int .i64 0, .int .i64 0, .slice none 0 0, .slice none 0 0, .slice none 0 0, .slice none 0 0, .slice (slP oid2) m cap2], 31), (some b1, [.int .i64 0, .int .i64 0, .string ByteArray.empty, .string ByteArray.empty, .string ByteArray.empty, .string ByteArray.empty, .bool false, .bool false, .bool false, .int .i64 0, .int .i64 0, .int .i64 0, .int .i64 0, .int .i64 0, .slice none 0 0, .slice none 0 0, .slice none 0 0, .slice none 0 0, .slice none 0 0], 31), (some b0, [.int .i64 3, .string v, .string a, .string t, .int .i64 st, .slice p k.len c], 24), (oid2, xs2 ++ sp2, 31), (some mb, [.int .i64 1, .int .i64 col2], 70)])) (fun i _ => k.len - (intOf i).toNat)
  case atStart => exact ⟨0, 0, rfl, rfl, .nil, none, 0, [], [], col + 1, Lib.hid ⟨rfl, Gr.empty 19, trivial, by simp [F.size], by simp [F.size], trivial, fun _ => trivial⟩, Nat.zero_le _, Lib.hid ((hst.addNone [] 31).perm (List.perm_append_comm (l₁ := [_]) (l₂ := [_, _, _])|>.append_right [_]))⟩
  case round =>
    clear hst
    obtain ⟨n, m, rfl, hn2, fo, oid2, cap2, xs2, sp2, col2, HI, hmle, HL⟩ := hrel
    have hst := HL.out
    clear HL
    by_cases hm : (n : Int) + 1 < k.len
    · have hx3 : ∃ x, k.get n = some (x, .nil) ∧ KeyOK x .nil := by
        obtain ⟨x, h1, h2, -⟩ := HS.out.2.2.2.at m (by omega)
        exact ⟨x, by rw [hn2]; exact h1, h2⟩
      obtain ⟨x, hgx, hkx⟩ := hx3
      obtain ⟨y, ky, hgy⟩ := F.get_lt (f := k) (i := n + 1) (by omega)
      obtain ⟨pb, po, q, capq, cs, tq, fr, rfl, hcap, hslq, htq, hhp, hcc⟩ := Sl.at3 HS.out.2.2.1 hgx
      obtain ⟨pb', po', q2, capq2, cs2, tq2, fr2, hpe, hcap2, hslq2, htq2, hhp2, hcc2⟩ := Sl.at3 HS.out.2.2.1 hgy
      simp only [Option.some.injEq, Addr.mk.injEq, and_true] at hpe
      obtain ⟨rfl, rfl⟩ := hpe
      have hkp := hst.kp
      have hcell : ∀ (j : Nat) (v : Value), ([.int .i64 x.kind, .string x.v, .string x.a, .string x.t, .int .i64 x.st, .slice q 0 capq] : List Value)[j]? = some v → wr.cell? ⟨pb, po + n * 6 + j, none⟩ = some v := fun j v hv => hkp.cell hhp (by rw [htq]; exact (by decide : 24 ∉ [70])) (by exact List.not_mem_nil) (hcc j v hv)
      have hcell2 : ∀ (w : World), Kp B [70] w0 w → ∀ (j : Nat) (v : Value), ([.int .i64 y.kind, .string y.v, .string y.a, .string y.t, .int .i64 y.st, .slice q2 ky.len capq2] : List Value)[j]? = some v → w.cell? ⟨pb, po + (n + 1) * TS.n + j, none⟩ = some v := fun w hkp j v hv => hkp.cell hhp2 (by rw [htq2]; exact (by decide : 24 ∉ [70])) (by exact List.not_mem_nil) (hcc2 j v hv)
      have hsz := F.size_get hgx
      have hsz2 := F.size_get hgy
      have htk := F.size_take_succ hgx
      have htk2 := F.size_take_succ hgy
      have htl := F.size_take k (n + 1 + 1)
      have hcb := HI.out.size
      have hcb2 := HI.out.most
      rw [← hn2] at hcb2
      have HN := Lib.hid hn2
      clear hn2
      have hxok := F.all_get HS.out.2.1.2 hgx
      have hyok := F.all_get HS.out.2.1.2 hgy
      have HX := Lib.hid (And.intro hgx (And.intro hkx (And.intro hgy (And.intro hxok hyok))))
      have HCC := Lib.hid (And.intro hcell (And.intro hcell2 (And.intro hcap2 hslq2)))
      clear hcap hslq hcc hcell hkp hhp htq hcap2 hslq2 hcc2 hhp2 htq2 hcell2 hgx hkx hgy hxok hyok
      simp only [F.size] at htk
      go_wp2_with (first | ((with_reducible refine at_load ?_); refine wl_ldc (vs := [.int .i64 x.kind, .string x.v, .string x.a, .string x.t, .int .i64 x.st, .slice q 0 capq]) rfl rfl rfl HCC.out.1 (by exact agg_of rfl rfl) ?_) | (first | ((with_reducible refine at_load ?_); first | refine X1 hst ?_ | refine XW hst ?_) | ((with_reducible refine at_store ?_); (first | refine Y1 hst ?_ | refine YW hst ?_); clear hst; intro w hst) | ((first | ((with_reducible refine at_alloc ?_); refine ZP hst ?_) | ((with_reducible refine at_box ?_); refine ZP hst ?_) | ((with_reducible refine at_bslice ?_); refine ZS hst ?_)); clear hst; (first | ((fail_if_success have := b0); intro b0 w hb0 hst) | ((fail_if_success have := b1); intro b1 w hb1 hst) | ((fail_if_success have := b2); intro b2 w hb2 hst) | ((fail_if_success have := b3); intro b3 w hb3 hst) | ((fail_if_success have := b4); intro b4 w hb4 hst) | ((fail_if_success have := b5); intro b5 w hb5 hst) | (intro b6 w hb6 hst)))))
      refine (HS.out.1 x .nil hsz B mb col2 q capq _ (hst.rebase (L' := [_]) (.cons _ (.cons _ (.cons _ (.cons _ (List.Sublist.refl _))))) rfl) (by omega) (by simp only [F.size]; omega) HX.out.2.2.2.1 (Nat.zero_le _) (.inl rfl)).mono ?_
      rintro e w1 ⟨hK, kK, pK, cK, colK, rfl, -, -, hst2, hz, -, hg⟩
      obtain ⟨hkk, hk1⟩ := hg.2 HX.out.2.1.1.1 HX.out.2.1.2.2.1 HX.out.2.1.2.2.2 HX.out.2.1.2.1
      subst hkk
      have HG := Lib.hid hg
      simp only [F.size] at hz
      have hrow := HI.out.row.hold (KdN.call hst2.kp)
      replace hst := St.after (L1 := [_, _, _, _]) hst hst2 rfl rfl (fun _ h => h)
      simp only [List.cons_append, List.nil_append] at hst
      have hwa := St.watchP (L1 := [_, _, _, _]) (L2 := [_]) hst (bs := [b2, b1, b0] ++ oid2.toList) (by cases oid2 <;> rfl) rfl
      simp only [List.cons_append, List.nil_append] at hwa
      have HST := Lib.hid (And.intro hst hrow)
      have hlo := hst.kp.size
      clear hst hst2 hrow hg
      have hst := hwa
      clear hwa
      unfold nval
      simp only [F.len]
      go_wp2_with ((first | ((with_reducible refine at_load ?_); first | refine X1 hst ?_ | refine XW hst ?_) | ((with_reducible refine at_store ?_); (first | refine Y1 hst ?_ | refine YW hst ?_); clear hst; intro w hst) | ((first | ((with_reducible refine at_alloc ?_); refine ZP hst ?_) | ((with_reducible refine at_box ?_); refine ZP hst ?_) | ((with_reducible refine at_bslice ?_); refine ZS hst ?_)); clear hst; (first | ((fail_if_success have := b0); intro b0 w hb0 hst) | ((fail_if_success have := b1); intro b1 w hb1 hst) | ((fail_if_success have := b2); intro b2 w hb2 hst) | ((fail_if_success have := b3); intro b3 w hb3 hst) | ((fail_if_success have := b4); intro b4 w hb4 hst) | ((fail_if_success have := b5); intro b5 w hb5 hst) | (intro b6 w hb6 hst)))))
      refine (place_any B _ mb _ (hst.rebase2 (Ts' := [70]) (L' := [_]) (.cons _ (.cons _ (.cons _ (.cons _ (.cons _ (List.Sublist.refl _)))))) rfl) (by omega) (by omega)).mono ?_
      rintro e w2 ⟨ca, hc3, hc4, rfl, h2⟩
      have HC2 := Lib.hid (And.intro hc3 hc4)
      replace hst := St.after (L1 := [_, _, _, _, _]) hst h2 rfl rfl (fun _ h => h)
      simp only [List.cons_append, List.nil_append] at hst
      clear hc3 hc4 h2
      go_wp2_with ((first | ((with_reducible refine at_load ?_); first | refine X1 hst ?_ | refine XW hst ?_) | ((with_reducible refine at_store ?_); (first | refine Y1 hst ?_ | refine YW hst ?_); clear hst; intro w hst) | ((first | ((with_reducible refine at_alloc ?_); refine ZP hst ?_) | ((with_reducible refine at_box ?_); refine ZP hst ?_) | ((with_reducible refine at_bslice ?_); refine ZS hst ?_)); clear hst; (first | ((fail_if_success have := b0); intro b0 w hb0 hst) | ((fail_if_success have := b1); intro b1 w hb1 hst) | ((fail_if_success have := b2); intro b2 w hb2 hst) | ((fail_if_success have := b3); intro b3 w hb3 hst) | ((fail_if_success have := b4); intro b4 w hb4 hst) | ((fail_if_success have := b5); intro b5 w hb5 hst) | (intro b6 w hb6 hst)))))
      (refine (wrNode_any _ 13 5 ca ⟨#[58]⟩ ByteArray.empty (.inr ⟨by decide, by decide, rfl⟩)).mono ?_; rintro e w1 ⟨rfl, hb⟩; replace hst := hst.below hb; clear hb; unfold nval)
      go_upto_region 21 with ((first | ((with_reducible refine at_load ?_); first | refine X1 hst ?_ | refine XW hst ?_) | ((with_reducible refine at_store ?_); (first | refine Y1 hst ?_ | refine YW hst ?_); clear hst; intro w hst) | ((first | ((with_reducible refine at_alloc ?_); refine ZP hst ?_) | ((with_reducible refine at_box ?_); refine ZP hst ?_) | ((with_reducible refine at_bslice ?_); refine ZS hst ?_)); clear hst; (first | ((fail_if_success have := b0); intro b0 w hb0 hst) | ((fail_if_success have := b1); intro b1 w hb1 hst) | ((fail_if_success have := b2); intro b2 w hb2 hst) | ((fail_if_success have := b3); intro b3 w hb3 hst) | ((fail_if_success have := b4); intro b4 w hb4 hst) | ((fail_if_success have := b5); intro b5 w hb5 hst) | (intro b6 w hb6 hst)))))
      have hrow := HST.out.2.hold (KdN.hold2 (lo := w0.heap.size) (nb := [b4, b3]) (bs := [b2, b1, b0]) hst (in_bs (bs := [b2, b1, b0])) (by simp; omega))
      replace hst := HST.out.1.unwatch hst (HST.out.1.loN (bs := [b2, b1, b0]) (by (repeat' (first | exact List.Mem.head _ | apply List.Mem.tail)); done) (by simp; omega))
      have HRO := Lib.hid hrow
      clear hrow
      refine wp_plan (fun w => St B [70] w0 w [(some b3, [.int .i64 hK.kind, .int .i64 hK.typ, .string hK.value, .string hK.text, .string hK.text, .string ByteArray.empty, .bool hK.flow, .bool false, .bool false, .int .i64 1, .int .i64 hK.col, .int .i64 hK.off, .int .i64 0, .int .i64 0, .slice none 0 0, .slice none 0 0, .slice none 0 0, .slice none 0 0, .slice pK 0 cK], 31), (some b0, [.int .i64 3, .string v, .string a, .string t, .int .i64 st, .slice (some ⟨pb, po, none⟩) k.len c], 24)]) [0, 1, 2, 3, 4, 5, 6, 7, 10] (.q 0 (.q 1 (.q 2 (.q 3 (.q 4 (.q 5 (.q 6 (.q 7 (.e 8 true (.e 9 true (.q 10 (.e 11 false (.fin))))))))))))) mixed (by kernel_rfl) (by kernel_rfl) (by kernel_rfl) (fun d v c a w h => by cases d <;> exact h) (hst.drew.sub (.cons _ (.cons_cons _ (.cons _ (.cons _ (.cons_cons _ (List.nil_sublist _))))))) ?_
      replace hst := hst.drew
      repeat ((refine AQ ?_); first | (refine Q1 ?_; go_frame) | (refine QW ?_; go_frame) | (refine QV ?_; go_frame))
      (refine AQ ?_)
      refine q_val rfl (v := .pointer (some ⟨pb, po + (n + 1) * TS.n, none⟩)) ?_ ?_
      · intro w' hS
        go_simp
        rw [show IntKind.i64.wrap ((n : Int) + 1) = ((n + 1 : Nat) : Int) from (IntWalk.i64_in _ (by omega)).trans (by omega), if_pos (by omega)]
        rfl
      go_frame
      (refine AQ ?_)
      refine p_ldc (vs := [.int .i64 y.kind, .string y.v, .string y.a, .string y.t, .int .i64 y.st, .slice q2 ky.len capq2]) (fun w hS => HCC.out.2.1 w hS.kp) rfl rfl rfl (by exact agg_of rfl rfl) ?_
      go_frame
      repeat ((refine AQ ?_); first | (refine Q1 ?_; go_frame) | (refine QW ?_; go_frame) | (refine QV ?_; go_frame))
      refine at_e (by simp only [List.getElem?_toArray, List.getElem?_cons_succ, List.getElem?_cons_zero]; rfl) rfl ?_
      refine e_call (by go_simp <;> first | rfl | exact ⟨rfl, rfl⟩) (HS.out.1 y ky hsz2 B mb (colK + 1) q2 capq2 _ (hst.rebase (L' := [_]) (.cons _ (.cons _ (.cons _ (.cons _ (.cons _ (.cons _ (List.Sublist.refl _))))))) rfl) (by omega) (by omega) HX.out.2.2.2.2 HCC.out.2.2.1 (HCC.out.2.2.2.hold (TIs.stay hst.kp (by decide) rfl))) ?_
      rintro e w3 ⟨h', k', p', c', col', rfl, hsl, hcc, hst2, hz2, hz3, hg⟩
      have hsl2 := hsl.hold (KdN.new (bs := [b4, b3, b2, b1, b0]) (oid := oid2) hst ⟨_, rfl⟩)
      have hrow := HRO.out.hold (Hold.drew.trans (KdN.call hst2.kp))
      replace hst := St.after (L1 := [_, _, _, _, _, _]) hst hst2 rfl rfl (fun _ h => h)
      simp only [List.cons_append, List.nil_append] at hst
      have hwa := St.watchP (L1 := [_, _, _, _, _, _]) (L2 := [_]) hst (bs := [b4, b3, b2, b1, b0] ++ oid2.toList) (by cases oid2 <;> rfl) rfl
      simp only [List.cons_append, List.nil_append] at hwa
      have hinv : ∀ w L, St B ⟨[70], [b4, b3, b2, b1, b0] ++ oid2.toList⟩ w3 w L → St B [70] w0 w L := fun w L h => hst.unwatch h (hst.loN (bs := [b4, b3, b2, b1, b0]) (by (repeat' (first | exact List.Mem.head _ | apply List.Mem.tail)); done) (by simp; omega))
      have hlo3 := hst.kp.size
      have HQ := Lib.hid (And.intro hsl2 (And.intro hrow (And.intro hcc (And.intro hz2 (And.intro hz3 (And.intro hg hinv))))))
      clear hsl hsl2 hrow hcc hst2 hz2 hz3 hg hst hinv
      have hst := hwa
      clear hwa
      refine ⟨_, rfl, fun _ => (HQ.out.2.2.2.2.2.2 _ _ hst).sub (.cons _ (.cons_cons _ (.cons _ (.cons _ (.cons_cons _ (List.nil_sublist _)))))), ?_⟩
      unfold nval
      go_frame
      refine at_e (by simp only [List.getElem?_toArray, List.getElem?_cons_succ, List.getElem?_cons_zero]; rfl) rfl ?_
      refine p_newS hst (by go_simp; first | rfl | exact ⟨⟨rfl, rfl⟩, rfl⟩) ?_
      clear hst
      intro b5 w hb5 hst
      refine ⟨fun _ => (HQ.out.2.2.2.2.2.2 _ _ hst).sub (.cons _ (.cons _ (.cons_cons _ (.cons _ (.cons _ (.cons_cons _ (List.nil_sublist _))))))), ?_⟩
      go_frame
      repeat ((refine AQ ?_); first | (refine Q1 ?_; go_frame) | (refine QW ?_; go_frame) | (refine QV ?_; go_frame))
      refine at_e (by simp only [List.getElem?_toArray, List.getElem?_cons_succ, List.getElem?_cons_zero]; rfl) rfl ?_
      (refine E1 hst ?_; clear hst; intro w hst; refine ⟨?_, ?_⟩; rotate_left; go_frame)
      · unfold wpP
        replace hst := hst.perm (List.perm_append_comm (l₁ := [_, _, _, _, _, _]) (l₂ := [_])|>.append_right [_])
        simp only [List.cons_append, List.nil_append] at hst
        have hgr := HI.out.gr
        have hmn : m ≤ n := by have := HN.out; omega
        go_wp2_with (first | (first | ((with_reducible refine at_bslice ?_); (refine ZS hst ?_; clear hst; (first | ((fail_if_success have := b0); intro b0 w hb0 hst) | ((fail_if_success have := b1); intro b1 w hb1 hst) | ((fail_if_success have := b2); intro b2 w hb2 hst) | ((fail_if_success have := b3); intro b3 w hb3 hst) | ((fail_if_success have := b4); intro b4 w hb4 hst) | ((fail_if_success have := b5); intro b5 w hb5 hst) | (intro b6 w hb6 hst)))) | ((with_reducible refine at_append ?_); (refine wl_appH hst rfl rfl rfl rfl (by first | exact el213 | exact el22 | exact el28 | exact el29 | exact el48 | exact el52 | exact el134 | exact el146 | exact el205) hgr (by decide) (by decide) rfl rfl (by omega) (by simp only [maxLen]; omega) ?_; clear hst hgr; intro oid cap sp w hst hgr hno))) | (first | ((with_reducible refine at_load ?_); first | refine X1 hst ?_ | refine XW hst ?_) | ((with_reducible refine at_store ?_); (first | refine Y1 hst ?_ | refine YW hst ?_); clear hst; intro w hst)))
        go_round
        case rel =>
          obtain ⟨hsl, hrow, hcc, hz2, hz3, hg, hinv⟩ := HQ.out
          have hH := KdN.hold (lo := w0.heap.size) (lo' := w0.heap.size) (bs := [b4, b3, b2, b1, b0]) (oid := oid2) (oid3 := oid) hst (by (repeat' (first | exact List.Mem.head _ | apply List.Mem.tail)); done) (in_bs (bs := [b4, b3, b2, b1, b0])) (Nat.le_refl _)
          have hn5 : b5 ∉ [b4, b3, b2, b1, b0] := by
            have e4 := hst.ne_of (i := 1) (j := 2) (by decide) rfl rfl b5 rfl
            have e3 := hst.ne_of (i := 1) (j := 3) (by decide) rfl rfl b5 rfl
            have e2 := hst.ne_of (i := 1) (j := 4) (by decide) rfl rfl b5 rfl
            have e1 := hst.ne_of (i := 1) (j := 5) (by decide) rfl rfl b5 rfl
            have e0 := hst.ne_of (i := 1) (j := 6) (by decide) rfl rfl b5 rfl
            simp only [ne_eq, Option.some.injEq] at e4 e3 e2 e1 e0
            simp only [List.mem_cons, List.not_mem_nil, or_false, not_or]
            exact ⟨fun h => e4 h.symm, fun h => e3 h.symm, fun h => e2 h.symm, fun h => e1 h.symm, fun h => e0 h.symm⟩
          have hno5 : oid ≠ some b5 := hst.ne_of (i := 1) (j := 0) (by decide) rfl rfl b5 rfl
          have hkids : Sl NS (KdN w0.heap.size [b4, b3, b2, b1, b0] oid) w (some ⟨b5, 0, none⟩) (.cons hK .nil (.cons h' k' .nil)) := .inr ⟨b5, 0, _, _, _, rfl, hst.heap (b := b5) (by (repeat' (first | exact List.Mem.head _ | apply List.Mem.tail)); done), ⟨by omega, rfl, hn5, hno5⟩, pK, cK, _, rfl, Nat.zero_le _, .inl rfl, p', c', [], rfl, hcc, hsl.hold hH, trivial⟩
          have hrow2 : Row NS (KdN w0.heap.size [b4, b3, b2, b1, b0] oid) w ((xs2 ++ nL ⟨13, 5, ByteArray.empty, ⟨#[58]⟩, flow, ca, ca⟩ (.slice (some ⟨b5, 0, none⟩) 2 2)) ++ sp) (fo.snoc ⟨13, 5, ByteArray.empty, ⟨#[58]⟩, flow, ca, ca⟩ (.cons hK .nil (.cons h' k' .nil))) := Row.snoc (h := ⟨13, 5, ByteArray.empty, ⟨#[58]⟩, flow, ca, ca⟩) (hrow.hold hH) (by rw [HI.out.gr.len, HI.out.len]; rfl) sp (Nat.le_refl _) hkids
          have hrow3 := hrow2.hold (KdN.less (bs' := [b2, b1, b0]) (by simp))
          have hgo : k.all NoPlus → (fo.snoc ⟨13, 5, ByteArray.empty, ⟨#[58]⟩, flow, ca, ca⟩ (.cons hK .nil (.cons h' k' .nil))).all NOK := fun hp => by
            have h1 := F.all_get hp HX.out.1
            have h2 := HG.out.1 h1.1 h1.2
            have h3 := F.all_get hp HX.out.2.2.1
            have h4 := hg.1 h3.1 h3.2
            exact F.all_snocN (HI.out.good hp) ⟨HC2.out.1, HC2.out.2, rfl, .inr (.inr (.inr (.inl ⟨rfl, rfl, _, _, _, rfl, hk1⟩)))⟩ ⟨h2.1, trivial, h4.1, h4.2, trivial⟩
          have hn2 := HN.out
          refine ⟨n + 2, m + 1, by rw [show (n : Int) + 2 = ((n + 2 : Nat) : Int) by omega], by omega, _, oid, cap, _, sp, col', Lib.hid ⟨by rw [F.len_snoc, HI.out.len], hgr, hrow3, by rw [F.size_snoc]; simp only [F.size]; omega, by rw [F.size_snoc, show 2 * (m + 1) = n + 1 + 1 by omega, htk2, htk]; simp only [F.size]; omega, allTop_snoc (p := fun x => x.kind = 13) rfl HI.out.top, hgo⟩, by omega, Lib.hid ?_⟩
          exact ((hinv _ _ hst).sub (.cons_cons _ (.cons _ (.cons _ (.cons _ (List.Sublist.refl _)))))).perm ((List.perm_append_comm (l₁ := [_]) (l₂ := [_, _, _])).append_right [_])
        case measure => simp [intOf]; omega
      · intro h; cases h
    · have hmk : n = k.len := by
        obtain ⟨z, hz⟩ := HS.out.2.2.2.even
        omega
      have hwa := St.watchP (L1 := [_, _, _, _]) hst (bs := [b2, b1, b0] ++ oid2.toList) (by cases oid2 <;> rfl) rfl
      simp only [List.cons_append, List.nil_append] at hwa
      have HST := Lib.hid hst
      have HN := Lib.hid (And.intro hn2 hmk)
      clear hst hn2 hmk
      have hst := hwa
      clear hwa
      go_wp2_with ((first | ((with_reducible refine at_load ?_); first | refine X1 hst ?_ | refine XW hst ?_) | ((with_reducible refine at_store ?_); (first | refine Y1 hst ?_ | refine YW hst ?_); clear hst; intro w hst)))
      refine ret_cell hst rfl rfl (by (repeat' (first | exact List.Mem.head _ | apply List.Mem.tail)); done) (by exact agg_of rfl rfl) rfl ?_
      obtain ⟨hlen, hgr, hrow, hsz, hmo, htop, hgo⟩ := HI.out
      rw [← HN.out.1, HN.out.2, F.take_len] at hmo
      have hrow2 := hrow.hold (KdN.hold2 (lo := w0.heap.size) (nb := []) (bs := [b2, b1, b0]) hst (in_bs (bs := [b2, b1, b0])) (by simp))
      have hun := HST.out.unwatch hst (HST.out.loN (bs := [b2, b1, b0]) (by (repeat' (first | exact List.Mem.head _ | apply List.Mem.tail)); done) (by simp; omega))
      have hsl := KdN.sl hun (by (repeat' (first | exact List.Mem.head _ | apply List.Mem.tail)); done) hgr hlen hrow2
      rw [← hlen]
      exact ⟨⟨11, 10, ByteArray.empty, ⟨#[123]⟩, flow, cc, cc⟩, fo, slP oid2, cap2, col2, rfl, hsl, by rw [hlen]; exact hgr.le, hun.sub (.cons _ (.cons _ (.cons _ (.cons _ (List.Sublist.refl _))))), by omega, by omega, fun _ hp => ⟨⟨HC.out.1, HC.out.2, rfl, .inr (.inr (.inl ⟨rfl, rfl, htop⟩))⟩, hgo hp⟩, fun h => absurd h (by decide : ¬ (3 : Int) = 1)⟩
end Go.Proofs.YtpajcfkldnbpfaaGreatDoor
