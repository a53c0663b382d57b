/- bare: mappings. bare: pairs; and build, given bare. Sequences. The visitor. -/
import Derived.Test.YtpajcfkldnbpfaaGreatDoorV15
set_option linter.unusedSimpArgs false
set_option linter.unusedVariables false
namespace Go.Proofs.YtpajcfkldnbpfaaGreatDoor
open Go.RowKit
theorem mapping_any (tk : Nat) (flow : Bool) (oid : Option Nat) (n cap : Nat) (vs sp : List Value) (w0 : World) (hn : vs.length = n) (hl : n ≤ 1000) (hgr : Gr 1 oid n cap vs sp) (hnil : n = 0 → oid = none) (hblk : ∀ g, oid = some g → Blk w0 g 137 (vs ++ sp)) (h1 : (vs.all Value.oneCell') = true) : Calls Tryz.prog 69 #[ptr tk, .bool flow, .slice (slP oid) n cap] w0 (MapR tk flow vs w0) := by
  by_cases h0 : n = 0
  · have e := hnil h0
    subst e
    have e2 := hgr.nil rfl
    subst e2
    subst h0
    have e3 := List.eq_nil_of_length_eq_zero hn
    subst e3
    exact mapping_nil tk flow w0
  · cases oid with
    | none => have := hgr.nil rfl; have := hgr.le; omega
    | some g => exact mapping_some tk flow g n cap vs sp w0 hn (by omega) hl (hblk g rfl) h1
theorem ptrs_one (bs : List Nat) : ((bs.map ptr).all Value.oneCell') = true := by simp [List.all_eq_true, Value.oneCell', ptr]
set_option maxRecDepth 100000 in
set_option maxHeartbeats 1000000 in
theorem bare_map (A : Nat → Nat → Prop) (h : NH) (k : F NH) (p : Option Addr) (c tk pb : Nat) (w0 : World) (ht : TokAt w0 0 h tk pb) (hs : SlT A w0 p k) (hkc : k.len ≤ c) (hk : h.kind = 11) (hl : k.len ≤ 1000) (hP : ∀ i x kk, k.get i = some (x, kk) → PairC x kk) : Calls Tryz.prog 32 #[nval h (.slice p k.len c), ptr tk] w0 (BareR h k tk pb w0) := by
  have HS := Lib.hid (And.intro hs (And.intro hkc hP))
  clear hs hkc hP
  (have hst := St.nil w0.heap.size ⟨[], []⟩ w0 (Nat.le_refl _); obtain ⟨kd, ty, va, te, fl, co, of⟩ := h; simp only at hk; subst hk; have HT := Lib.hid ht; clear ht; unfold nval; go_enter Tryz.func32, Tryz.ntmps32)
  go_upto_region 23 with ((first | ((with_reducible refine at_load ?_); first | refine X1 hst ?_ | refine XW hst ?_) | ((with_reducible refine at_store ?_); (first | refine Y1 hst ?_ | refine YW hst ?_); clear hst; intro w hst) | ((first | ((with_reducible refine at_alloc ?_); refine ZP hst ?_) | ((with_reducible refine at_box ?_); refine ZP hst ?_) | ((with_reducible refine at_bslice ?_); refine ZS hst ?_)); clear hst; (first | ((fail_if_success have := b0); intro b0 w hb0 hst) | (intro b1 w hb1 hst)))))
  refine wp_plan (fun w => St w0.heap.size ⟨[], []⟩ w0 w [(some b0, [.int .i64 11, .int .i64 ty, .string va, .string te, .string te, .string ByteArray.empty, .bool fl, .bool false, .bool false, .int .i64 1, .int .i64 co, .int .i64 of, .int .i64 0, .int .i64 0, .slice none 0 0, .slice none 0 0, .slice none 0 0, .slice none 0 0, .slice p k.len c], 31)]) [0, 1, 2, 3, 4, 7] (.q 0 (.q 1 (.q 2 (.q 3 (.q 4 (.e 5 true (.e 6 true (.q 7 (.fin))))))))) mixed (by kernel_rfl) (by kernel_rfl) (by kernel_rfl) (fun d v c a w h => by cases d <;> exact h) hst.drew ?_
  replace hst := hst.drew
  repeat ((refine AQ ?_); first | (refine Q1 ?_; go_frame) | (refine QW ?_; go_frame) | (refine QV ?_; go_frame))
  refine at_e (by simp only [List.getElem?_toArray, List.getElem?_cons_succ, List.getElem?_cons_zero]; rfl) rfl ?_
  refine e_call (by go_simp <;> first | rfl | exact ⟨rfl, rfl⟩) (pairs_any A k p c _ (HS.out.1.lt hst.kp.below) hl HS.out.2.2) ?_
  rintro e w2 ⟨oid, cap, bs, sp, rfl, hlen, hgr, hnil, hstp, hmade⟩
  have hz1 := hst.kp.size
  have hz2 := hstp.kp.size
  replace hst := hst.below hstp.kp.below
  refine ⟨_, rfl, fun _ => hst, ?_⟩
  go_frame
  refine at_e (by simp only [List.getElem?_toArray, List.getElem?_cons_succ, List.getElem?_cons_zero]; rfl) rfl ?_
  refine e_call (by go_simp <;> first | rfl | exact ⟨rfl, rfl⟩) (mapping_any tk fl oid k.len cap (bs.map ptr) sp _ (by rw [List.length_map]; exact hlen) hl hgr hnil (fun g e => hstp.blk (by rw [e]; exact List.Mem.head _)) (ptrs_one bs)) ?_
  rintro e w3 ⟨b, ba, g, c2, sp2, rfl, hlb, hlba, hlg, hbb, hc2, hbg, hba, hb⟩
  have hz3 := hb.size
  have hst3 := hst.below hb
  replace hst := hst.addNew2 hb hlb hlba hbb hba (by decide)
  have HQ := Lib.hid (And.intro hlen (And.intro hmade (And.intro hc2 (And.intro hbg (And.intro hb hst)))))
  have hwa := St.watchP (L1 := [_]) (L2 := []) (hst.sub (.cons_cons _ (List.nil_sublist _))) (bs := [b]) rfl rfl
  simp only [List.cons_append, List.nil_append] at hwa
  refine ⟨_, rfl, fun _ => hst.sub (.cons _ (.cons _ (List.Sublist.refl _))), ?_⟩
  go_frame
  repeat ((refine AQ ?_); first | (refine Q1 ?_; go_frame) | (refine QW ?_; go_frame) | (refine QV ?_; go_frame))
  unfold wpP
  replace hst := hwa
  clear hwa hst3 hbb hba hlen hmade hc2 hbg hb
  go_upto_region 24 with fail
  refine wp_plan (fun w => St w0.heap.size ⟨[], []⟩ w0 w [(some b0, [.int .i64 11, .int .i64 ty, .string va, .string te, .string te, .string ByteArray.empty, .bool fl, .bool false, .bool false, .int .i64 1, .int .i64 co, .int .i64 of, .int .i64 0, .int .i64 0, .slice none 0 0, .slice none 0 0, .slice none 0 0, .slice none 0 0, .slice p k.len c], 31)]) [0, 1, 2, 3, 4, 5, 6] (.q 0 (.q 1 (.q 2 (.q 3 (.q 4 (.q 5 (.q 6 (.e 7 true (.e 8 false (.e 9 false (.e 10 false (.fin)))))))))))) mixed (by kernel_rfl) (by kernel_rfl) (by kernel_rfl) (fun d v c a w h => by cases d <;> exact h) (HQ.out.2.2.2.2.2.drew.sub (.cons _ (.cons _ (List.Sublist.refl _)))) ?_
  replace hst := hst.drew
  repeat ((refine AQ ?_); first | (refine Q1 ?_; go_frame) | (refine QW ?_; go_frame) | (refine QV ?_; go_frame))
  (refine AQ ?_)
  refine p_ldc1 (q := ⟨tk, 6, none⟩) (v := ptr pb) (fun w hS => (HT.out.1.below hS.kp.below).cell (off := 6) rfl) rfl rfl rfl (one_of (by decide +kernel)) ?_
  go_frame
  repeat ((refine AQ ?_); first | (refine Q1 ?_; go_frame) | (refine QW ?_; go_frame) | (refine QV ?_; go_frame))
  refine at_e (by simp only [List.getElem?_toArray, List.getElem?_cons_succ, List.getElem?_cons_zero]; rfl) rfl ?_
  refine e_call (by go_simp <;> first | rfl | exact ⟨rfl, rfl⟩) (comments_nil _ _) ?_
  rintro e w4 ⟨rfl, rfl⟩
  refine ⟨_, rfl, fun h => (by first | exact absurd h (by decide) | exact HQ.out.2.2.2.2.2.drew.sub (.cons _ (.cons _ (List.Sublist.refl _)))), ?_⟩
  go_frame
  refine at_e (by simp only [List.getElem?_toArray, List.getElem?_cons_succ, List.getElem?_cons_zero]; rfl) rfl ?_
  refine e_val (by go_simp; first | rfl | exact ⟨rfl, rfl⟩) (fun h => (by first | exact absurd h (by decide) | exact HQ.out.2.2.2.2.2.drew.sub (.cons _ (.cons _ (List.Sublist.refl _))))) ?_
  go_frame
  refine at_e (by simp only [List.getElem?_toArray, List.getElem?_cons_succ, List.getElem?_cons_zero]; rfl) rfl ?_
  refine e_val (by go_simp; first | rfl | exact ⟨rfl, rfl⟩) (fun h => (by first | exact absurd h (by decide) | exact HQ.out.2.2.2.2.2.drew.sub (.cons _ (.cons _ (List.Sublist.refl _))))) ?_
  go_frame
  refine at_e (by simp only [List.getElem?_toArray, List.getElem?_cons_succ, List.getElem?_cons_zero]; rfl) rfl ?_
  (refine E1 hst ?_; clear hst; intro w hst; refine ⟨?_, ?_⟩; rotate_left; go_frame)
  · unfold wpP
    go_wp2_with ((first | ((with_reducible refine at_load ?_); first | refine X1 hst ?_ | refine XW hst ?_) | ((with_reducible refine at_store ?_); (first | refine Y1 hst ?_ | refine YW hst ?_); clear hst; intro w hst)))
    refine ret_tmp rfl rfl rfl ?_
    obtain ⟨hlen, ⟨C, hC, hA⟩, hc2, hbg, hb, hst3⟩ := HQ.out
    have hun := (hst3.sub (.cons_cons _ (List.nil_sublist _))).unwatch (Ts := ⟨[], []⟩) hst (by simp; omega)
    have h9 := hst.kp.size
    have hkeep : ∀ (x t : Nat) (l : List Value), Blk w3 x t l → x ≠ b → Blk w x t l := fun x t l hx hn => hst.kp.typ x _ _ _ hx List.not_mem_nil (fun hm => hn (by simpa using hm))
    have hnba : ba ≠ b := fun e => hst3.ne_of (i := 0) (j := 1) (by decide) rfl rfl b rfl (by rw [e])
    have hng : g ≠ b := fun e => by
      have h5 := hst3.blk (b := b) (by (repeat' (first | exact List.Mem.head _ | apply List.Mem.tail)); done)
      subst e
      unfold Blk at h5 hbg
      rw [h5] at hbg
      injection hbg with e1
      injection e1 with e2 e3
      exact absurd e3 (by decide)
    have hbb := hun.blk (b := b) (by (repeat' (first | exact List.Mem.head _ | apply List.Mem.tail)); done)
    rw [List.length_map] at hbb hc2
    refine ⟨b, ba, tk, pb, w0.heap.size, bs, rfl, .inl ⟨rfl, rfl⟩, hun.kp.size, fun w'' ha ht => ⟨ht, (hkeep ba _ _ (hst3.blk (b := ba) (by (repeat' (first | exact List.Mem.head _ | apply List.Mem.tail)); done)) hnba).agree ha (by omega), ?_, ?_⟩, hun.kp.below⟩
    · exact .inr (.inr (.inr (.inr (.inr (.inr (.inr (.inr (.inl ⟨rfl, some ⟨g, 0, none⟩, c2, hc2, .inr ⟨g, sp2, rfl, (hkeep g _ _ hbg hng).agree ha (by omega)⟩, hbb.agree ha (by omega)⟩))))))))
    · refine (hA w'' fun i cs t fr hi hbk => ?_).widen hz1 (by omega)
      obtain ⟨h1, h2, -⟩ := hC i hi
      have h3 := (hb.block i h2).trans hbk
      exact ha i cs t fr (by omega) (hst.kp.typ i cs t fr h3 List.not_mem_nil (fun hm => by simp at hm; omega))
  · intro h
    exact absurd h (by decide)
end Go.Proofs.YtpajcfkldnbpfaaGreatDoor
namespace Go.Proofs.YtpajcfkldnbpfaaGreatDoor
open Go.RowKit
def BareX (h : NH) (k : F NH) (tk pb : Nat) (w : World) (e : Ending) (w' : World) : Prop := BareR h k tk pb w e w' ∨ BuildR h k w e w'
set_option maxRecDepth 100000 in
set_option maxHeartbeats 1000000 in
theorem bare_pair (h : NH) (k : F NH) (p : Option Addr) (c tk pb : Nat) (A : Nat → Nat → Prop) (w0 : World) (hs : SlT A w0 p k) (hkc : k.len ≤ c) (hk : h.kind = 13) (hP : PairC h k) : Calls Tryz.prog 32 #[nval h (.slice p k.len c), ptr tk] w0 (BareX h k tk pb w0) := by
  have hst := St.nil w0.heap.size ⟨[], []⟩ w0 (Nat.le_refl _)
  obtain ⟨kd, ty, va, te, fl, co, of⟩ := h
  simp only at hk
  subst hk
  have HS := Lib.hid (And.intro hs (And.intro hkc hP))
  clear hs hkc hP
  unfold nval
  go_enter Tryz.func32, Tryz.ntmps32
  go_wp2_with ((first | ((with_reducible refine at_load ?_); first | refine X1 hst ?_ | refine XW hst ?_) | ((with_reducible refine at_store ?_); (first | refine Y1 hst ?_ | refine YW hst ?_); clear hst; intro w hst) | ((first | ((with_reducible refine at_alloc ?_); refine ZP hst ?_) | ((with_reducible refine at_box ?_); refine ZP hst ?_) | ((with_reducible refine at_bslice ?_); refine ZS hst ?_)); clear hst; (intro b0 w hb0 hst))))
  refine (HS.out.2.2.2 A p c _ (HS.out.1.lt hst.kp.below) HS.out.2.1).mono ?_
  rintro e w1 ⟨b, rfl, hast, hb⟩
  have hz := hst.kp.size
  replace hst := hst.below hb
  have HA := Lib.hid hast
  clear hast
  go_wp2_with ((first | ((with_reducible refine at_load ?_); first | refine X1 hst ?_ | refine XW hst ?_) | ((with_reducible refine at_store ?_); (first | refine Y1 hst ?_ | refine YW hst ?_); clear hst; intro w hst)))
  refine ret_tmp rfl rfl rfl ?_
  exact .inr ⟨b, rfl, fun w'' ha => (HA.out w'' (ha.mono hz)).widen hz (Nat.le_refl _), hst.kp.below⟩
def BareC (h : NH) (k : F NH) : Prop := ∀ (A : Nat → Nat → Prop) (p : Option Addr) (c tk pb : Nat) (w : World), TokAt w 0 h tk pb → SlT A w p k → k.len ≤ c → Calls Tryz.prog 32 #[nval h (.slice p k.len c), ptr tk] w (BareX h k tk pb w)
theorem BareX.ast {h : NH} {k : F NH} {tk pb : Nat} {w0 w w2 : World} {e : Ending} (hz : w0.heap.size ≤ w.heap.size) (hp : w0.heap.size ≤ pb) (ht : w0.heap.size ≤ tk) (htk : Blk w tk 92 [.int .i64 h.typ, .int .i64 0, .int .i64 0, .string h.text, .string h.text, .string ByteArray.empty, ptr pb, .pointer none, .pointer none]) (hpb : Blk w pb 186 [.int .i64 1, .int .i64 h.col, .int .i64 h.off, .int .i64 0, .int .i64 0]) (he : BareX h k tk pb w e w2) :
    ∃ b, e = .returned (nodeV h b) ∧ (∀ w'', Agree w0.heap.size w2 w'' → AstN w'' 0 w0.heap.size w2.heap.size (.cons h k .nil) [b]) ∧ Below w.heap.size w w2 := by
  rcases he with ⟨b, ba, tk', pb', m1, kb, rfl, h1, h2, h3, hb⟩ | ⟨b, rfl, h1, hb⟩
  · refine ⟨b, rfl, fun w'' ha => ?_, hb⟩
    have hto : TokAt w'' 0 h tk pb := ⟨(htk.below hb).agree ha ht, by rw [Int.add_zero]; exact (hpb.below hb).agree ha hp⟩
    obtain ⟨a1, a2, a3, a4⟩ := h3 w'' (ha.mono hz) hto
    refine ⟨b, [], ba, tk', pb', m1, w2.heap.size, kb, rfl, ?_, ?_, a1, a2, a3, a4, rfl, Nat.le_refl _⟩
    · rcases h1 with ⟨e, _⟩ | ⟨e, _⟩ <;> omega
    · rcases h1 with ⟨e, e2⟩ | ⟨_, e⟩
      · have := hpb.lt
        omega
      · exact e
  · exact ⟨b, rfl, fun w'' ha => (h1 w'' (ha.mono hz)).widen hz (Nat.le_refl _), hb⟩
set_option maxRecDepth 100000 in
set_option maxHeartbeats 1000000 in
theorem build_step (h : NH) (k : F NH) (hok : NOK h k) (hB : BareC h k) (A : Nat → Nat → Prop) (p : Option Addr) (c : Nat) (w0 : World) (hs : SlT A w0 p k) (hkc : k.len ≤ c) : Calls Tryz.prog 18 #[nval h (.slice p k.len c)] w0 (BuildR h k w0) := by
  have hst := St.nil w0.heap.size ⟨[], []⟩ w0 (Nat.le_refl _)
  have hc1 := hok.1
  have hc2 := hok.2.1
  have HS := Lib.hid (And.intro hs (And.intro hkc hB))
  clear hs hkc hB hok
  unfold nval
  go_enter Tryz.func18, Tryz.ntmps18
  go_wp2_with (first | ((with_reducible refine at_load ?_); refine wl_lds hst (off := 9) (vs := [.int .i64 1, .int .i64 h.col, .int .i64 h.off, .int .i64 0, .int .i64 0]) rfl rfl rfl (by (repeat' (first | exact List.Mem.head _ | apply List.Mem.tail)); done) (.there (.there (.there (.there (.there (.there (.there (.there (.there (.here (.cons (.cons (.cons (.cons (.cons .nil))))))))))))))) (by exact agg_of rfl rfl) ?_) | (first | ((with_reducible refine at_load ?_); first | refine X1 hst ?_ | refine XW hst ?_) | ((with_reducible refine at_store ?_); (first | refine Y1 hst ?_ | refine YW hst ?_); clear hst; intro w hst) | ((first | ((with_reducible refine at_alloc ?_); refine ZP hst ?_) | ((with_reducible refine at_box ?_); refine ZP hst ?_) | ((with_reducible refine at_bslice ?_); refine ZS hst ?_)); clear hst; (first | ((fail_if_success have := b0); intro b0 w hb0 hst) | ((fail_if_success have := b1); intro b1 w hb1 hst) | (intro b2 w hb2 hst)))))
  refine (position_any h.col h.off _ hc1 hc2).mono ?_
  rintro e w1 ⟨pb, rfl, hpb, hpos, hb⟩
  have hz0 := hst.kp.size
  replace hst := hst.addNew hb hpb hpos
  clear hb hpos
  go_wp2_with ((first | ((with_reducible refine at_load ?_); first | refine X1 hst ?_ | refine XW hst ?_) | ((with_reducible refine at_store ?_); (first | refine Y1 hst ?_ | refine YW hst ?_); clear hst; intro w hst) | ((first | ((with_reducible refine at_alloc ?_); refine ZP hst ?_) | ((with_reducible refine at_box ?_); refine ZP hst ?_) | ((with_reducible refine at_bslice ?_); refine ZS hst ?_)); clear hst; (first | ((fail_if_success have := b0); intro b0 w hb0 hst) | ((fail_if_success have := b1); intro b1 w hb1 hst) | (intro b2 w hb2 hst)))))
  refine (HS.out.2.2 A p c b1 pb _ ⟨hst.blk (by (repeat' (first | exact List.Mem.head _ | apply List.Mem.tail)); done), by rw [Int.add_zero]; exact hst.blk (by (repeat' (first | exact List.Mem.head _ | apply List.Mem.tail)); done)⟩ (HS.out.1.lt hst.kp.below) HS.out.2.1).mono ?_
  intro e w2 he
  obtain ⟨b, rfl, hast, hb⟩ := BareX.ast hst.kp.size (by omega) hb1 (hst.blk (b := b1) (by (repeat' (first | exact List.Mem.head _ | apply List.Mem.tail)); done)) (hst.blk (b := pb) (by (repeat' (first | exact List.Mem.head _ | apply List.Mem.tail)); done)) he
  replace hst := hst.below hb
  have HA := Lib.hid hast
  clear hast he hb
  unfold nodeV
  go_wp2_with ((first | ((with_reducible refine at_load ?_); first | refine X1 hst ?_ | refine XW hst ?_) | ((with_reducible refine at_store ?_); (first | refine Y1 hst ?_ | refine YW hst ?_); clear hst; intro w hst)))
  refine (comments_nil _ _).mono ?_
  rintro e w3 ⟨rfl, rfl⟩
  go_wp2_with ((first | ((with_reducible refine at_load ?_); first | refine X1 hst ?_ | refine XW hst ?_) | ((with_reducible refine at_store ?_); (first | refine Y1 hst ?_ | refine YW hst ?_); clear hst; intro w hst)))
  refine ret_tmp rfl rfl rfl ?_
  exact ⟨b, rfl, HA.out, hst.kp.below⟩
end Go.Proofs.YtpajcfkldnbpfaaGreatDoor
namespace Go.Proofs.YtpajcfkldnbpfaaGreatDoor
open Go.RowKit
theorem Made.weaken {w0 wx : World} {f : F NH} {bs : List Nat} {no no' : List (Option Nat)} (h : Made w0 wx f bs no) (hn : ∀ x ∈ no', x ∈ no) : Made w0 wx f bs no' := by
  obtain ⟨C, hC, hA⟩ := h
  exact ⟨C, fun i hi => ⟨(hC i hi).1, (hC i hi).2.1, fun hm => (hC i hi).2.2 (hn _ hm)⟩, hA⟩
theorem mem_fm {L : Rws} {i : Nat} (h : i ∈ L.filterMap (·.1)) : some i ∈ L.map (·.1) := by
  obtain ⟨x, hx, e⟩ := List.mem_filterMap.1 h
  exact List.mem_map.2 ⟨x, hx, e⟩
theorem Made.stay {B : Nat} {w0 wx w : World} {f : F NH} {bs xs : List Nat} {L L' : Rws} (h : Made w0 wx f bs (L.map (·.1))) (hxs : xs = L.filterMap (·.1)) (hst : St B ⟨[], xs⟩ wx w L') : Made w0 w f bs (L'.map (·.1)) := by
  subst hxs
  have X : ∀ i, i < wx.heap.size → some i ∉ L.map (·.1) → some i ∉ L'.map (·.1) := fun i hi hno hm => by
    obtain ⟨⟨b, l, t⟩, hx, e⟩ := List.mem_map.1 hm
    simp only at e
    subst e
    rcases (hst.rows i l t hx).2 with h5 | ⟨_, h5 | h5⟩
    · omega
    · cases h5
    · exact hno (mem_fm h5)
  exact h.keep hst.kp.size (fun i cs t fr hno _ hbk => ⟨hst.kp.typ i cs t fr hbk List.not_mem_nil (fun hm => hno (mem_fm hm)), X i (lt_of_heap hbk) hno⟩) (fun i h1 _ h2 => X i h1 h2)
theorem St.watchBs {B : Nat} {Ts : Ch} {w0 w : World} {L : Rws} (h : St B Ts w0 w L) {bs : List Nat} (hbs : bs = L.filterMap (·.1)) : St B ⟨Ts.ts, bs⟩ w w L :=
  h.watch bs fun b l t hm => .inr (by rw [hbs]; exact List.mem_filterMap.2 ⟨_, hm, rfl⟩)
theorem St.watchEx {B : Nat} {Ts : Ch} {w0 w : World} {L : Rws} (h : St B Ts w0 w L) : ∃ l, l = L.filterMap (·.1) ∧ St B ⟨Ts.ts, l⟩ w w L := ⟨_, rfl, h.watchBs rfl⟩
theorem St.unwatchBs {B : Nat} {w0 w1 w : World} {L L' : Rws} (h : St B ⟨[], []⟩ w0 w1 L) {bs : List Nat} (hbs : bs = L.filterMap (·.1)) (h2 : St B ⟨[], bs⟩ w1 w L') : St B ⟨[], []⟩ w0 w L' :=
  h.unwatch (Ts := ⟨[], []⟩) h2 fun b hb => by
    subst hbs
    obtain ⟨⟨x, l, t⟩, hx, e⟩ := List.mem_filterMap.1 hb
    simp only at e
    subst e
    rcases (h.rows b l t hx).2 with h5 | ⟨_, h5 | h5⟩
    · exact h5
    · cases h5
    · cases h5
theorem St.addAt {B : Nat} {Ts : Ch} {w0 w : World} {L : Rws} (h : St B Ts w0 w L) {b t : Nat} {l : List Value} (hlo : w0.heap.size ≤ b) (hblk : Blk w b t l) (ht : (L.all fun x => x.2.2 != t) = true) : St B Ts w0 w ((some b, l, t) :: L) := by
  refine ⟨h.kp, h.base, fun x lx tx hm => ?_, .cons (fun y hy x hx hc => ?_) h.ne⟩
  · rcases List.mem_cons.1 hm with e | hm
    · cases e
      exact ⟨hblk, .inl hlo⟩
    · exact h.rows x lx tx hm
  · cases hx
    obtain ⟨yb, yl, yt⟩ := y
    simp only at hc
    subst hc
    have h1 := (h.rows b yl yt hy).1
    have h2 := List.all_eq_true.1 ht _ hy
    unfold Blk at hblk
    rw [hblk] at h1
    injection h1 with e
    injection e with e1 e2
    simp [e2] at h2
theorem ifs_snoc {x : NH} {kx : F NH} {bx : Nat} : ∀ {f : F NH} {bs : List Nat}, bs.length = f.len → ifs (f.snoc x kx) (bs ++ [bx]) = ifs f bs ++ [nodeV x bx] := by
  intro f
  induction f with
  | nil => intro bs h; cases bs with
    | nil => rfl
    | cons _ _ => simp [F.len] at h
  | cons h k r ihk ihr =>
    intro bs hb
    cases bs with
    | nil => simp [F.len] at hb
    | cons b bs =>
      simp only [List.length_cons, F.len, Nat.add_right_cancel_iff] at hb
      simp only [F.snoc, List.cons_append, ifs, ihr hb]
theorem ifs_length : ∀ {f : F NH} {bs : List Nat}, bs.length = f.len → (ifs f bs).length = f.len := by
  intro f
  induction f with
  | nil => intro bs h; rfl
  | cons h k r ihk ihr =>
    intro bs hb
    cases bs with
    | nil => simp [F.len] at hb
    | cons b bs =>
      simp only [List.length_cons, F.len, Nat.add_right_cancel_iff] at hb
      simp only [ifs, List.length_cons, F.len, ihr hb]
theorem SlV.of_row {B : Nat} {Ts : Ch} {w0 w w'' : World} {L : Rws} (h : St B Ts w0 w L) {oid : Option Nat} {n cap t : Nat} {xs sp : List Value} (hm : (oid, xs ++ sp, t) ∈ L) (hgr : Gr 1 oid n cap xs sp) {lo : Nat} (hlo : ∀ b, oid = some b → lo ≤ b) (ha : Agree lo w w'') : SlV w'' t (slP oid) xs := by
  cases oid with
  | none =>
    have h1 := hgr.nil rfl
    have h2 := hgr.len
    have h3 := hgr.le
    left
    have : n = 0 := by omega
    subst this
    exact List.eq_nil_of_length_eq_zero (by omega)
  | some b => exact .inr ⟨b, sp, rfl, (h.blk hm).agree ha (hlo b rfl)⟩
theorem St.row_lo {B : Nat} {w0 w : World} {L : Rws} (h : St B ⟨[], []⟩ w0 w L) {b t : Nat} {l : List Value} (hm : (some b, l, t) ∈ L) : w0.heap.size ≤ b := by
  rcases (h.rows b l t hm).2 with h5 | ⟨_, h5 | h5⟩
  · exact h5
  · cases h5
  · cases h5
theorem St.lt_no {B : Nat} {Ts : Ch} {w0 w : World} {L : Rws} (h : St B Ts w0 w L) : ∀ b, some b ∈ L.map (·.1) → b < w.heap.size := fun b hm => by
  obtain ⟨⟨x, l, t⟩, hx, e⟩ := List.mem_map.1 hm
  simp only at e
  subst e
  exact lt_of_heap (h.rows b l t hx).1
def SeqR (h : NH) (k : F NH) (tk : Nat) (w : World) (e : Ending) (w' : World) : Prop := ∃ (b ba c cc : Nat) (p pc : Option Addr) (bs : List Nat), e = .returned (.iface 145 (ptr b)) ∧ k.len ≤ c ∧ k.len ≤ cc ∧ bs.length = k.len ∧
  (∀ w'', Agree w.heap.size w' w'' → AstN w'' 0 w.heap.size w'.heap.size k bs ∧ Blk w'' b 149 [ptr ba, ptr tk, .pointer none, .bool h.flow, .slice p k.len c, .slice pc k.len cc, .slice none 0 0, .pointer none] ∧ Blk w'' ba 235 [.string ByteArray.empty, .pointer none, .int .i64 0] ∧ SlV w'' 55 p (ifs k bs) ∧ SlV w'' 93 pc (List.replicate k.len (.pointer none))) ∧ Below w.heap.size w w'
set_option maxRecDepth 100000 in
set_option maxHeartbeats 2000000 in
theorem seq_any (A : Nat → Nat → Prop) (h : NH) (k : F NH) (p : Option Addr) (c tk pb : Nat) (w0 : World) (hs : SlT A w0 p k) (hl : k.len ≤ 1000) (ht : TokAt w0 0 h tk pb) (hP : ∀ i x kk, k.get i = some (x, kk) → BuildC x kk ∧ NOK x kk ∧ kk.all NOK) : Calls Tryz.prog 73 #[nval h (.slice p k.len c), ptr tk] w0 (SeqR h k tk w0) := by
  have HS := Lib.hid (And.intro hs (And.intro hP ht))
  have hst := St.nil w0.heap.size ⟨[], []⟩ w0 (Nat.le_refl _)
  clear hs hP ht
  unfold nval
  go_enter Tryz.func73, Tryz.ntmps73
  go_wp2_with ((first | ((with_reducible refine at_load ?_); first | refine X1 hst ?_ | refine XW hst ?_) | ((with_reducible refine at_store ?_); (first | refine Y1 hst ?_ | refine YW hst ?_); clear hst; intro w hst) | ((first | ((with_reducible refine at_alloc ?_); refine ZP hst ?_) | ((with_reducible refine at_box ?_); refine ZP hst ?_) | ((with_reducible refine at_bslice ?_); refine ZS hst ?_)); clear hst; (first | ((fail_if_success have := b0); intro b0 w hb0 hst) | ((fail_if_success have := b1); intro b1 w hb1 hst) | ((fail_if_success have := b2); intro b2 w hb2 hst) | ((fail_if_success have := b3); intro b3 w hb3 hst) | (intro b4 w hb4 hst)))))
  refine (sequence_any tk h.flow _).mono ?_
  rintro e w1 ⟨g, ⟨b, ba, rfl, hlb, hlba, hbb, hba, hb⟩, hlg, hbg⟩
  have hz0 := hst.kp.size
  replace hst := hst.addNew2 hb hlb hlba hbb hba (by decide)
  replace hst := hst.addAt (b := g) (by omega) hbg rfl
  clear hb hbb hba hbg
  have hz1 := hst.kp.size
  have HB0 : Hid (w0.heap.size ≤ b ∧ w0.heap.size ≤ ba) := Lib.hid ⟨by omega, by omega⟩
  clear hlb hlba hlg
  replace hst := hst.perm (L' := [(some g, [], 55), (some b, [ptr ba, ptr tk, .pointer none, .bool h.flow, .slice (some ⟨g, 0, none⟩) 0 0, .slice none 0 0, .slice none 0 0, .pointer none], 149), (some ba, [.string ByteArray.empty, .pointer none, .int .i64 0], 235), (some b0, [.int .i64 h.kind, .int .i64 h.typ, .string h.value, .string h.text, .string h.text, .string ByteArray.empty, .bool h.flow, .bool false, .bool false, .int .i64 1, .int .i64 h.col, .int .i64 h.off, .int .i64 0, .int .i64 0, .slice none 0 0, .slice none 0 0, .slice none 0 0, .slice none 0 0, .slice p k.len c], 31)]) (List.Perm.refl _)
  replace hst := (hst.addNone [] 93).perm (List.Perm.swap _ _ _)
  go_wp2_with ((first | ((with_reducible refine at_load ?_); first | refine X1 hst ?_ | refine XW hst ?_) | ((with_reducible refine at_store ?_); (first | refine Y1 hst ?_ | refine YW hst ?_); clear hst; intro w hst)))
  have HST := Lib.hid hst
  clear hst
  go_loopw [15] (fun i wx => ∃ (m : Nat), i = .int .i64 m ∧ m ≤ k.len ∧ ∃ (oid1 oid2 : Option Nat) (cap1 cap2 : Nat) (bs : List Nat) (sp1 sp2 : List Value), Hid (bs.length = m ∧ Gr 1 oid1 m cap1 (ifs (k.take m) bs) sp1 ∧ Gr 1 oid2 m cap2 (List.replicate m (.pointer none)) sp2 ∧ Made w0 wx (k.take m) bs [oid1, oid2, some b, some ba, some b0]) ∧ Hid (St w0.heap.size ⟨[], []⟩ w0 wx [(oid1, ifs (k.take m) bs ++ sp1, 55), (oid2, List.replicate m (.pointer none) ++ sp2, 93), (some b, [ptr ba, ptr tk, .pointer none, .bool h.flow, .slice (slP oid1) m cap1, .slice (slP oid2) m cap2, .slice none 0 0, .pointer none], 149), (some ba, [.string ByteArray.empty, .pointer none, .int .i64 0], 235), (some b0, [.int .i64 h.kind, .int .i64 h.typ, .string h.value, .string h.text, .string h.text, .string ByteArray.empty, .bool h.flow, .bool false, .bool false, .int .i64 1, .int .i64 h.col, .int .i64 h.off, .int .i64 0, .int .i64 0, .slice none 0 0, .slice none 0 0, .slice none 0 0, .slice none 0 0, .slice p k.len c], 31)])) (fun i _ => k.len - (intOf i).toNat)
  case atStart =>
    have h0 : k.take 0 = .nil := by cases k <;> rfl
    refine ⟨0, rfl, Nat.zero_le _, some g, none, 0, 0, [], [], [], Lib.hid ⟨rfl, ?_, Gr.empty 1, ?_⟩, Lib.hid ?_⟩
    · rw [h0]
      exact ⟨rfl, rfl, Nat.le_refl _, by simp [maxLen], fun h => by cases h⟩
    · rw [h0]
      exact Made.nil _ _ _ HST.out.kp.size
    · rw [h0]
      exact HST.out
  case round =>
    obtain ⟨m, rfl, hmk, oid1, oid2, cap1, cap2, bs, sp1, sp2, HI, HL⟩ := hrel
    by_cases hm : (m : Int) < k.len
    · obtain ⟨x, kk, hg⟩ := F.get_lt (f := k) (i := m) (by omega)
      obtain ⟨pb', po, q, capq, tq, rfl, hcap, hslq, -, hlt, hcc⟩ := Sl.at2 HS.out.1.1 hg
      have hlow := HL.out.kp.low pb' hlt
      have hcell : ∀ (j : Nat) (v : Value), ([.int .i64 x.kind, .int .i64 x.typ, .string x.value, .string x.text, .string x.text, .string ByteArray.empty, .bool x.flow, .bool false, .bool false, .int .i64 1, .int .i64 x.col, .int .i64 x.off, .int .i64 0, .int .i64 0, .slice none 0 0, .slice none 0 0, .slice none 0 0, .slice none 0 0, .slice q kk.len capq] : List Value)[j]? = some v → wr.cell? ⟨pb', po + m * 19 + j, none⟩ = some v := fun j v hv => by
        have h1 := hcc j v hv
        simp only [World.cell?] at h1 ⊢
        rw [hlow]
        exact h1
      have HC := Lib.hid (And.intro hcell (And.intro hcap (And.intro (show SlT A w0 q kk from ⟨hslq, HS.out.1.2⟩) (And.intro hg (HS.out.2.1 m x kk hg)))))
      clear hcell hcap hslq hg hlt hcc hlow
      obtain ⟨bs0, hbs0, hst⟩ := HL.out.watchEx
      have HBS0 := Lib.hid hbs0
      clear hbs0
      go_upto_region 5 with (first | ((with_reducible refine at_load ?_); refine wl_ldc (vs := [.int .i64 x.kind, .int .i64 x.typ, .string x.value, .string x.text, .string x.text, .string ByteArray.empty, .bool x.flow, .bool false, .bool false, .int .i64 1, .int .i64 x.col, .int .i64 x.off, .int .i64 0, .int .i64 0, .slice none 0 0, .slice none 0 0, .slice none 0 0, .slice none 0 0, .slice q kk.len capq]) rfl rfl rfl HC.out.1 (by exact agg_of rfl rfl) ?_) | (first | ((with_reducible refine at_load ?_); first | refine X1 hst ?_ | refine XW hst ?_) | ((with_reducible refine at_store ?_); (first | refine Y1 hst ?_ | refine YW hst ?_); clear hst; intro w hst) | ((first | ((with_reducible refine at_alloc ?_); refine ZP hst ?_) | ((with_reducible refine at_box ?_); refine ZP hst ?_) | ((with_reducible refine at_bslice ?_); refine ZS hst ?_)); clear hst; (first | ((fail_if_success have := b0); intro b0 w hb0 hst) | ((fail_if_success have := b1); intro b1 w hb1 hst) | ((fail_if_success have := b2); intro b2 w hb2 hst) | ((fail_if_success have := b3); intro b3 w hb3 hst) | (intro b4 w hb4 hst)))))
      have HM1 := Lib.hid (Made.stay HI.out.2.2.2 HBS0.out hst)
      have HL1 := Lib.hid (HL.out.unwatchBs HBS0.out hst)
      have hlo1 := hst.lt_no
      clear hst
      obtain ⟨bs1, hbs1, hst⟩ := HL1.out.watchEx
      have HBS1 := Lib.hid hbs1
      have HLO := Lib.hid hlo1
      clear hbs1 hlo1
      have HW1 := Lib.hid hst
      refine wp_plan (fun wy => St w0.heap.size ⟨[], bs1⟩ w wy [(some b1, [.int .i64 x.kind, .int .i64 x.typ, .string x.value, .string x.text, .string x.text, .string ByteArray.empty, .bool x.flow, .bool false, .bool false, .int .i64 1, .int .i64 x.col, .int .i64 x.off, .int .i64 0, .int .i64 0, .slice none 0 0, .slice none 0 0, .slice none 0 0, .slice none 0 0, .slice q kk.len capq], 31), (some b, [ptr ba, ptr tk, .pointer none, .bool h.flow, .slice (slP oid1) m cap1, .slice (slP oid2) m cap2, .slice none 0 0, .pointer none], 149)]) [0, 1, 2, 3, 4, 5] (.q 0 (.q 1 (.q 2 (.q 3 (.q 4 (.q 5 (.e 6 true (.e 7 true (.e 8 true (.e 9 false (.e 10 false (.e 11 false (.fin))))))))))))) mixed (by kernel_rfl) (by kernel_rfl) (by kernel_rfl) (fun d v c a w h => by cases d <;> exact h) (hst.drew.sub (.cons_cons _ (.cons _ (.cons _ (.cons_cons _ (List.nil_sublist _)))))) ?_
      replace hst := hst.drew
      repeat ((refine AQ ?_); first | (refine Q1 ?_; go_frame) | (refine QW ?_; go_frame) | (refine QV ?_; go_frame))
      refine at_e (by simp only [List.getElem?_toArray, List.getElem?_cons_succ, List.getElem?_cons_zero]; rfl) rfl ?_
      refine e_call (by go_simp <;> first | rfl | exact ⟨rfl, rfl⟩) (HC.out.2.2.2.2.1 A q capq _ (HC.out.2.2.1.lt HL1.out.drew.kp.below) HC.out.2.1 HC.out.2.2.2.2.2.1 HC.out.2.2.2.2.2.2) ?_
      rintro e w2 ⟨bx, rfl, hast, hb⟩
      have HM2 := Lib.hid (HM1.out.snoc (w1 := w.drew) hst.lt_no ⟨rfl, rfl, rfl, Nat.le_refl _, fun _ _ => rfl⟩ hast hb)
      replace hst := hst.below hb
      have HS2 := Lib.hid hst
      have HL2 := Lib.hid (HL1.out.unwatchBs HBS1.out hst)
      clear hst hast hb
      refine ⟨_, rfl, fun _ => HS2.out.sub (.cons_cons _ (.cons _ (.cons _ (.cons_cons _ (List.nil_sublist _))))), ?_⟩
      have hst := HL2.out.watchBs HBS1.out
      unfold nodeV
      go_frame
      refine at_e (by simp only [List.getElem?_toArray, List.getElem?_cons_succ, List.getElem?_cons_zero]; rfl) rfl ?_
      refine p_newS hst (by go_simp; first | rfl | exact ⟨⟨rfl, rfl⟩, rfl⟩) ?_
      clear hst
      intro b2 w hb2 hst
      refine ⟨fun _ => (HS2.out.chain hst).sub (.cons _ (.cons_cons _ (.cons _ (.cons _ (.cons_cons _ (List.nil_sublist _)))))), ?_⟩
      go_frame
      replace hst := hst.perm ((List.Perm.swap _ _ _).cons _)
      refine at_e (by simp only [List.getElem?_toArray, List.getElem?_cons_succ, List.getElem?_cons_zero]; rfl) rfl ?_
      refine p_appH hst rfl rfl rfl (by first | exact el213 | exact el22 | exact el28 | exact el29 | exact el48 | exact el52 | exact el134 | exact el146 | exact el205) HI.out.2.1 (by decide) (by decide) rfl rfl (by omega) (by simp only [maxLen]; omega) ?_
      clear hst
      intro oid1' cap1' sp1' w hst hgr1 hno1
      refine ⟨fun _ => (HS2.out.chain hst).sub (.cons _ (.cons_cons _ (.cons _ (.cons_cons _ (List.nil_sublist _))))), ?_⟩
      go_frame
      refine at_e (by simp only [List.getElem?_toArray, List.getElem?_cons_succ, List.getElem?_cons_zero]; rfl) rfl ?_
      refine e_val (by go_simp; first | rfl | exact ⟨rfl, rfl⟩) (fun h => (by first | exact absurd h (by decide) | exact (HS2.out.chain hst).sub (.cons _ (.cons_cons _ (.cons _ (.cons_cons _ (List.nil_sublist _))))))) ?_
      go_frame
      refine at_e (by simp only [List.getElem?_toArray, List.getElem?_cons_succ, List.getElem?_cons_zero]; rfl) rfl ?_
      refine e_val (by go_simp; first | rfl | exact ⟨rfl, rfl⟩) (fun h => (by first | exact absurd h (by decide) | exact (HS2.out.chain hst).sub (.cons _ (.cons_cons _ (.cons _ (.cons_cons _ (List.nil_sublist _))))))) ?_
      go_frame
      refine at_e (by simp only [List.getElem?_toArray, List.getElem?_cons_succ, List.getElem?_cons_zero]; rfl) rfl ?_
      have HG1 := Lib.hid (And.intro hgr1 hno1)
      clear hgr1 hno1
      refine E1 hst ?_
      clear hst
      intro w hst
      refine ⟨fun h => absurd h (by decide), ?_⟩
      go_frame
      unfold wpP
      rename World => wq
      go_upto_region 6 with fail
      refine wp_plan (fun wy => St w0.heap.size ⟨[], bs1⟩ w2 wy [(some b1, [.int .i64 x.kind, .int .i64 x.typ, .string x.value, .string x.text, .string x.text, .string ByteArray.empty, .bool x.flow, .bool false, .bool false, .int .i64 1, .int .i64 x.col, .int .i64 x.off, .int .i64 0, .int .i64 0, .slice none 0 0, .slice none 0 0, .slice none 0 0, .slice none 0 0, .slice q kk.len capq], 31), (some b, [ptr ba, ptr tk, .pointer none, .bool h.flow, .slice (slP oid1') (m + 1) cap1', .slice (slP oid2) m cap2, .slice none 0 0, .pointer none], 149)]) [0, 1, 2, 3, 4, 5, 6, 7, 8] (.q 0 (.q 1 (.q 2 (.q 3 (.q 4 (.q 5 (.q 6 (.q 7 (.q 8 (.e 9 true (.e 10 true (.e 11 true (.e 12 true (.e 13 false (.e 14 false (.e 15 false (.fin))))))))))))))))) mixed (by kernel_rfl) (by kernel_rfl) (by kernel_rfl) (fun d v c a w h => by cases d <;> exact h) (hst.drew.sub (.cons _ (.cons_cons _ (.cons _ (.cons_cons _ (List.nil_sublist _)))))) ?_
      replace hst := hst.drew
      repeat ((refine AQ ?_); first | (refine Q1 ?_; go_frame) | (refine QW ?_; go_frame) | (refine QV ?_; go_frame))
      (refine AQ ?_)
      refine p_sub (vs := [.int .i64 1, .int .i64 x.col, .int .i64 x.off, .int .i64 0, .int .i64 0]) (.there (.there (.there (.there (.there (.there (.there (.there (.there (.here (.cons (.cons (.cons (.cons (.cons .nil))))))))))))))) rfl rfl rfl (by (repeat' (first | exact List.Mem.head _ | apply List.Mem.tail)); done) (by exact agg_of rfl rfl) ?_
      go_frame
      repeat ((refine AQ ?_); first | (refine Q1 ?_; go_frame) | (refine QW ?_; go_frame) | (refine QV ?_; go_frame))
      refine at_e (by simp only [List.getElem?_toArray, List.getElem?_cons_succ, List.getElem?_cons_zero]; rfl) rfl ?_
      refine e_call (by go_simp <;> first | rfl | exact ⟨rfl, rfl⟩) (position_any x.col x.off _ HC.out.2.2.2.2.2.1.1 HC.out.2.2.2.2.2.1.2.1) ?_
      rintro e w3 ⟨pbx, rfl, -, -, hb⟩
      replace hst := hst.below hb
      clear hb
      refine ⟨_, rfl, fun _ => hst.sub (.cons _ (.cons_cons _ (.cons _ (.cons_cons _ (List.nil_sublist _))))), ?_⟩
      go_frame
      refine at_e (by simp only [List.getElem?_toArray, List.getElem?_cons_succ, List.getElem?_cons_zero]; rfl) rfl ?_
      refine e_call (by go_simp <;> first | rfl | exact ⟨rfl, rfl⟩) (comments_nil _ _) ?_
      rintro e w4 ⟨rfl, rfl⟩
      refine ⟨_, rfl, fun _ => hst.sub (.cons _ (.cons_cons _ (.cons _ (.cons_cons _ (List.nil_sublist _))))), ?_⟩
      go_frame
      refine at_e (by simp only [List.getElem?_toArray, List.getElem?_cons_succ, List.getElem?_cons_zero]; rfl) rfl ?_
      refine p_newS hst (by go_simp; first | rfl | exact ⟨⟨rfl, rfl⟩, rfl⟩) ?_
      clear hst
      intro b3 w hb3 hst
      refine ⟨fun _ => hst.sub (.cons _ (.cons _ (.cons_cons _ (.cons _ (.cons_cons _ (List.nil_sublist _)))))), ?_⟩
      go_frame
      replace hst := hst.perm ((List.perm_middle (l₁ := [_, _])).cons _)
      simp only [List.cons_append, List.nil_append] at hst
      refine at_e (by simp only [List.getElem?_toArray, List.getElem?_cons_succ, List.getElem?_cons_zero]; rfl) rfl ?_
      refine p_appH hst rfl rfl rfl (by first | exact el213 | exact el22 | exact el28 | exact el29 | exact el48 | exact el52 | exact el134 | exact el146 | exact el205) HI.out.2.2.1 (by decide) (by decide) rfl rfl (by omega) (by simp only [maxLen]; omega) ?_
      clear hst
      intro oid2' cap2' sp2' w hst hgr2 hno2
      refine ⟨fun _ => hst.sub (.cons _ (.cons _ (.cons_cons _ (.cons_cons _ (List.nil_sublist _))))), ?_⟩
      go_frame
      refine at_e (by simp only [List.getElem?_toArray, List.getElem?_cons_succ, List.getElem?_cons_zero]; rfl) rfl ?_
      refine e_val (by go_simp; first | rfl | exact ⟨rfl, rfl⟩) (fun h => (by first | exact absurd h (by decide) | exact hst.sub (.cons _ (.cons _ (.cons_cons _ (.cons_cons _ (List.nil_sublist _))))))) ?_
      go_frame
      refine at_e (by simp only [List.getElem?_toArray, List.getElem?_cons_succ, List.getElem?_cons_zero]; rfl) rfl ?_
      refine e_val (by go_simp; first | rfl | exact ⟨rfl, rfl⟩) (fun h => (by first | exact absurd h (by decide) | exact hst.sub (.cons _ (.cons _ (.cons_cons _ (.cons_cons _ (List.nil_sublist _))))))) ?_
      go_frame
      refine at_e (by simp only [List.getElem?_toArray, List.getElem?_cons_succ, List.getElem?_cons_zero]; rfl) rfl ?_
      have HG2 := Lib.hid (And.intro hgr2 hno2)
      clear hgr2 hno2
      refine E1 hst ?_
      clear hst
      intro w hst
      refine ⟨fun h => absurd h (by decide), ?_⟩
      go_frame
      unfold wpP
      go_wp2_with fail
      go_round
      case rel =>
        have hlen := HI.out.1
        have hlt : (k.take m).len = m := F.len_take hmk
        have HM := Made.stay HM2.out HBS1.out hst
        have HL' := HL2.out.unwatchBs HBS1.out hst
        have e1 : ifs (k.take (m + 1)) (bs ++ [bx]) = ifs (k.take m) bs ++ [.iface (tyOf x.kind) (ptr bx)] := by rw [F.take_succ HC.out.2.2.2.1, ifs_snoc (by rw [hlt]; exact hlen)]; rfl
        refine ⟨m + 1, by rw [show (m : Int) + 1 = ((m + 1 : Nat) : Int) by omega], by omega, oid1', oid2', cap1', cap2', bs ++ [bx], sp1', sp2', Lib.hid ⟨by rw [List.length_append, hlen]; rfl, by rw [e1]; exact HG1.out.1, by rw [List.replicate_succ']; exact HG2.out.1, ?_⟩, Lib.hid ?_⟩
        · rw [F.take_succ HC.out.2.2.2.1]
          exact HM.weaken (by intro x hx; simp only [List.map, List.mem_cons, List.not_mem_nil, or_false] at hx ⊢; rcases hx with h | h | h | h | h <;> simp [h])
        · rw [e1, List.replicate_succ']
          exact (HL'.sub (.cons_cons _ (.cons_cons _ (.cons _ (List.Sublist.refl _))))).perm (List.Perm.swap _ _ _)
      case measure => simp [intOf]; omega
    · have hmk2 : m = k.len := by omega
      subst hmk2
      obtain ⟨bs1, hbs1, hst⟩ := HL.out.watchEx
      have HBS1 := Lib.hid hbs1
      clear hbs1
      go_upto_region 8 with fail
      refine wp_plan (fun wy => St w0.heap.size ⟨[], bs1⟩ wr wy [(some b0, [.int .i64 h.kind, .int .i64 h.typ, .string h.value, .string h.text, .string h.text, .string ByteArray.empty, .bool h.flow, .bool false, .bool false, .int .i64 1, .int .i64 h.col, .int .i64 h.off, .int .i64 0, .int .i64 0, .slice none 0 0, .slice none 0 0, .slice none 0 0, .slice none 0 0, .slice p k.len c], 31)]) [0, 1, 2, 3, 4, 5, 6] (.q 0 (.q 1 (.q 2 (.q 3 (.q 4 (.q 5 (.q 6 (.e 7 true (.e 8 false (.e 9 false (.e 10 false (.fin)))))))))))) mixed (by kernel_rfl) (by kernel_rfl) (by kernel_rfl) (fun d v c a w h => by cases d <;> exact h) (hst.drew.sub (.cons _ (.cons _ (.cons _ (.cons _ (List.Sublist.refl _)))))) ?_
      replace hst := hst.drew
      repeat ((refine AQ ?_); first | (refine Q1 ?_; go_frame) | (refine QW ?_; go_frame) | (refine p_ldc1 (q := ⟨tk, 6, none⟩) (v := ptr pb) (fun w hS => (HS.out.2.2.1.below ((HL.out.kp.below).trans hS.kp.below)).cell (off := 6) rfl) rfl rfl rfl (one_of (by decide +kernel)) ?_; go_frame) | (refine QV ?_; go_frame))
      refine at_e (by simp only [List.getElem?_toArray, List.getElem?_cons_succ, List.getElem?_cons_zero]; rfl) rfl ?_
      refine e_call (by go_simp <;> first | rfl | exact ⟨rfl, rfl⟩) (comments_nil _ _) ?_
      rintro e w4 ⟨rfl, rfl⟩
      refine ⟨_, rfl, fun _ => hst.sub (.cons _ (.cons _ (.cons _ (.cons _ (List.Sublist.refl _))))), ?_⟩
      go_frame
      refine at_e (by simp only [List.getElem?_toArray, List.getElem?_cons_succ, List.getElem?_cons_zero]; rfl) rfl ?_
      refine e_val (by go_simp; first | rfl | exact ⟨rfl, rfl⟩) (fun h => (by first | exact absurd h (by decide) | exact hst.sub (.cons _ (.cons _ (.cons _ (.cons _ (List.Sublist.refl _))))))) ?_
      go_frame
      refine at_e (by simp only [List.getElem?_toArray, List.getElem?_cons_succ, List.getElem?_cons_zero]; rfl) rfl ?_
      refine e_val (by go_simp; first | rfl | exact ⟨rfl, rfl⟩) (fun h => (by first | exact absurd h (by decide) | exact hst.sub (.cons _ (.cons _ (.cons _ (.cons _ (List.Sublist.refl _))))))) ?_
      go_frame
      refine at_e (by simp only [List.getElem?_toArray, List.getElem?_cons_succ, List.getElem?_cons_zero]; rfl) rfl ?_
      refine E1 hst ?_
      clear hst
      intro w hst
      refine ⟨fun h => absurd h (by decide), ?_⟩
      go_frame
      unfold wpP
      go_wp2_with fail
      refine ret_tmp rfl rfl rfl ?_
      have hI := HI.out
      rw [F.take_len] at hI
      have HL' := HL.out.unwatchBs HBS1.out hst
      rw [F.take_len] at HL'
      obtain ⟨C, hC, hA⟩ := Made.stay (L := [(oid1, [], 55), (oid2, [], 93), (some b, [], 149), (some ba, [], 235), (some b0, [], 31)]) hI.2.2.2 HBS1.out hst
      refine ⟨b, ba, cap1, cap2, slP oid1, slP oid2, bs, rfl, hI.2.1.le, hI.2.2.1.le, hI.1, fun w'' ha => ⟨hA w'' fun i cs t fr hi hbk => ha i cs t fr (hC i hi).1 hbk, (HL'.blk (b := b) (by (repeat' (first | exact List.Mem.head _ | apply List.Mem.tail)); done)).agree ha HB0.out.1, (HL'.blk (b := ba) (by (repeat' (first | exact List.Mem.head _ | apply List.Mem.tail)); done)).agree ha HB0.out.2, SlV.of_row HL' (oid := oid1) (by (repeat' (first | exact List.Mem.head _ | apply List.Mem.tail)); done) hI.2.1 (fun g' e => ?_) ha, SlV.of_row HL' (oid := oid2) (by (repeat' (first | exact List.Mem.head _ | apply List.Mem.tail)); done) hI.2.2.1 (fun g' e => ?_) ha⟩, HL'.kp.below⟩
      · subst e
        exact HL'.row_lo (b := g') (by (repeat' (first | exact List.Mem.head _ | apply List.Mem.tail)); done)
      · subst e
        exact HL'.row_lo (b := g') (by (repeat' (first | exact List.Mem.head _ | apply List.Mem.tail)); done)
end Go.Proofs.YtpajcfkldnbpfaaGreatDoor
namespace Go.Proofs.YtpajcfkldnbpfaaGreatDoor
open Go.RowKit
theorem ret_none {P : Program} {w : World} {a : Act} {fn : Func} {R : Ending → World → Prop} (hf : fn.results = #[]) (hd : a.defers = []) (h : R (.returned (.tuple #[])) w) : bodyPost P fn R .ret a w := by
  refine bodyPost_ret (v := .tuple #[]) ?_ hd h
  simp [results, hf]
set_option maxHeartbeats 400000 in
theorem walkComment_any (v : Value) (ba : Nat) (w : World) (hb : Blk w ba 235 [.string ByteArray.empty, .pointer none, .int .i64 0]) : Calls Tryz.prog 57 #[v, ptr ba] w fun e w' => e = .returned (.tuple #[]) ∧ w = w' := by
  have c1 := hb.cell (off := 1) rfl
  go_enter Tryz.func57, Tryz.ntmps57
  go_wp2
  exact ret_none rfl rfl ⟨rfl, rfl⟩
end Go.Proofs.YtpajcfkldnbpfaaGreatDoor
