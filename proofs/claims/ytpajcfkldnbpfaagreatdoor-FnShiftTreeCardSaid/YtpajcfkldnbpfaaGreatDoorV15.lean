/- pair. pairs. pairs: the loop. Mapping. -/
import Derived.Test.YtpajcfkldnbpfaaGreatDoorV14
import Derived.Stop.Asserts
set_option linter.unusedSimpArgs false
set_option linter.unusedVariables false
namespace Go.Proofs.YtpajcfkldnbpfaaGreatDoor
open Go.RowKit
def PairR (h : NH) (k : F NH) (w : World) (e : Ending) (w' : World) : Prop := ∃ b, e = .returned (ptr b) ∧ (∀ w'', Agree w.heap.size w' w'' → AstN w'' 0 w.heap.size w'.heap.size (.cons h k .nil) [b]) ∧ Below w.heap.size w w'
theorem St.agreeL {B : Nat} {w3 w : World} {L : Rws} {bs : List Nat} {lo : Nat} (h : St B ⟨[], bs⟩ w3 w L) (hl : ∀ b ∈ bs, b < lo) : Agree lo w3 w := by
  intro i cs t fr hi hb
  refine h.kp.typ i cs t fr hb List.not_mem_nil (fun hm => ?_)
  have := hl i hm
  omega
theorem keyAssert (kd : Int) (hk : 2 ≤ kd ∧ kd ≤ 8) (v : Value) (xT : TypeId) (w : World) : (Instr.typeAssert (.iface (tyOf kd) v) xT 142 true).run Tryz.prog w = .ok (.tuple #[.iface (tyOf kd) v, .bool true]) w := by
  have hkd : kd = 2 ∨ kd = 3 ∨ kd = 4 ∨ kd = 5 ∨ kd = 6 ∨ kd = 7 ∨ kd = 8 := by omega
  rcases hkd with rfl | rfl | rfl | rfl | rfl | rfl | rfl
  · exact run_typeAssert_hasB (t := 106) Tryz.underlying142 (by kernel_rfl) v xT w
  · exact run_typeAssert_hasB (t := 109) Tryz.underlying142 (by kernel_rfl) v xT w
  · exact run_typeAssert_hasB (t := 113) Tryz.underlying142 (by kernel_rfl) v xT w
  · exact run_typeAssert_hasB (t := 117) Tryz.underlying142 (by kernel_rfl) v xT w
  · exact run_typeAssert_hasB (t := 120) Tryz.underlying142 (by kernel_rfl) v xT w
  · exact run_typeAssert_hasB (t := 123) Tryz.underlying142 (by kernel_rfl) v xT w
  · exact run_typeAssert_hasB (t := 125) Tryz.underlying142 (by kernel_rfl) v xT w
def AgreeI (lo hi : Nat) (w w' : World) : Prop := ∀ (i : Nat) (cs : Array Value) (t : Nat) (fr : Nat × Nat), lo ≤ i → i < hi → w.heap[i]? = some (.cells cs t fr) → w'.heap[i]? = some (.cells cs t fr)
theorem Agree.thenI {lo : Nat} {a b c : World} (h : Agree lo a b) (k : AgreeI lo a.heap.size b c) : Agree lo a c := fun i cs t fr hi hb => k i cs t fr hi (lt_of_heap hb) (h i cs t fr hi hb)
theorem Blk.keep {B : Nat} {wc w : World} {L : Rws} {b b0 x t : Nat} {l : List Value} (h : Blk wc x t l) (hst : St B ⟨[], [b, b0]⟩ wc w L) (hn : some b ≠ some x) (hn2 : some b0 ≠ some x) : Blk w x t l :=
  hst.kp.typ x _ _ _ h List.not_mem_nil (fun hm => by
    simp only [List.mem_cons, List.not_mem_nil, or_false] at hm
    rcases hm with e | e
    · exact hn (by rw [e])
    · exact hn2 (by rw [e]))
theorem St.agreeI {B lo hi : Nat} {wc w w2 : World} {L : Rws} {b b0 l0 : Nat} (hst : St B ⟨[], [b, b0]⟩ wc w L) (hb : hi ≤ b) (hb0 : b0 < lo) (hl : l0 ≤ lo) (ha : Agree l0 w w2) : AgreeI lo hi wc w2 := fun i cs t fr h1 h2 h3 => ha i cs t fr (by omega) (hst.kp.typ i cs t fr h3 List.not_mem_nil (fun hm => by simp at hm; omega))
set_option maxRecDepth 100000 in
set_option maxHeartbeats 2000000 in
theorem pair_any (A : Nat → Nat → Prop) (h : NH) (k : F NH) (p : Option Addr) (c : Nat) (w0 : World) (hs : SlT A w0 p k) (hkc : k.len ≤ c) (hk : h.kind = 13) (hcol : 1 ≤ h.col ∧ h.col ≤ 200) (a a2 : NH) (ka2 : F NH) (hka : k = .cons a .nil (.cons a2 ka2 .nil)) (hkk : 2 ≤ a.kind ∧ a.kind ≤ 8) (hB : BuildC a .nil) (hB2 : BuildC a2 ka2) (hok : NOK a .nil ∧ NOK a2 ka2 ∧ ka2.all NOK) :
    Calls Tryz.prog 72 #[nval h (.slice p k.len c)] w0 (PairR h k w0) := by
  subst hka
  have hst := St.nil w0.heap.size ⟨[], []⟩ w0 (Nat.le_refl _)
  obtain ⟨kd, ty, va, te, fl, co, of⟩ := h
  simp only at hk hcol
  subst hk
  have HS := Lib.hid (And.intro hs (And.intro hkc (And.intro hB (And.intro hB2 (And.intro hok hkk)))))
  clear hs hkc hB hB2 hok hkk
  simp only [F.len]
  unfold nval
  go_enter Tryz.func72, Tryz.ntmps72
  go_wp2_with (first | ((with_reducible refine at_load ?_); refine wl_lds hst (off := 9) (vs := [.int .i64 1, .int .i64 co, .int .i64 of, .int .i64 0, .int .i64 0]) rfl rfl rfl (by (repeat' (first | exact List.Mem.head _ | apply List.Mem.tail)); done) (.there (.there (.there (.there (.there (.there (.there (.there (.there (.here (.cons (.cons (.cons (.cons (.cons .nil)))))))))))))))  (by exact agg_of rfl rfl) ?_) | (first | ((with_reducible refine at_load ?_); first | refine X1 hst ?_ | refine XW hst ?_) | ((with_reducible refine at_store ?_); (first | refine Y1 hst ?_ | refine YW hst ?_); clear hst; intro w hst) | ((first | ((with_reducible refine at_alloc ?_); refine ZP hst ?_) | ((with_reducible refine at_box ?_); refine ZP hst ?_) | ((with_reducible refine at_bslice ?_); refine ZS hst ?_)); clear hst; (first | ((fail_if_success have := b0); intro b0 w hb0 hst) | ((fail_if_success have := b1); intro b1 w hb1 hst) | ((fail_if_success have := b2); intro b2 w hb2 hst) | ((fail_if_success have := b3); intro b3 w hb3 hst) | ((fail_if_success have := b4); intro b4 w hb4 hst) | (intro b5 w hb5 hst)))))
  refine (position_any co of _ hcol.1 hcol.2).mono ?_
  rintro e w1 ⟨pb, rfl, hpb, hpos, hb⟩
  have hsz0 := hst.kp.size
  replace hst := hst.addNew hb hpb hpos
  clear hb hpos
  go_upto_region 2 with ((first | ((with_reducible refine at_load ?_); first | refine X1 hst ?_ | refine XW hst ?_) | ((with_reducible refine at_store ?_); (first | refine Y1 hst ?_ | refine YW hst ?_); clear hst; intro w hst)))
  go_cut [4, 5] (fun y z wx => ∃ (kb l2 : Nat), y = nodeV a kb ∧ z = .bool true ∧ Hid (pb < l2 ∧ b0 < l2 ∧ l2 ≤ wx.heap.size ∧ (∀ w'', Agree l2 wx w'' → AstN w'' 0 l2 wx.heap.size (.cons a .nil .nil) [kb])) ∧ St w0.heap.size ⟨[], []⟩ w0 wx [(some pb, [.int .i64 1, .int .i64 co, .int .i64 of, .int .i64 0, .int .i64 0], 186), (some b0, [.int .i64 13, .int .i64 ty, .string va, .string te, .string te, .string ByteArray.empty, .bool fl, .bool false, .bool false, .int .i64 1, .int .i64 co, .int .i64 of, .int .i64 0, .int .i64 0, .slice none 0 0, .slice none 0 0, .slice none 0 0, .slice none 0 0, .slice p 2 c], 31)])
  case first =>
    go_wp2_with ((first | ((with_reducible refine at_load ?_); first | refine X1 hst ?_ | refine XW hst ?_) | ((with_reducible refine at_store ?_); (first | refine Y1 hst ?_ | refine YW hst ?_); clear hst; intro w hst)))
    refine (kid_any A ⟨13, ty, va, te, fl, co, of⟩ (.cons a .nil (.cons a2 ka2 .nil)) p c 0 a .nil _ (by decide) (HS.out.1.lt hst.kp.below) rfl (by simp [F.len])).mono ?_
    rintro e w2 ⟨q, cq, rfl, hcq, hsq, hb⟩
    replace hst := hst.below hb
    have hsq2 := hsq.lt hb
    unfold nval
    go_wp2_with ((first | ((with_reducible refine at_load ?_); first | refine X1 hst ?_ | refine XW hst ?_) | ((with_reducible refine at_store ?_); (first | refine Y1 hst ?_ | refine YW hst ?_); clear hst; intro w hst)))
    refine (HS.out.2.2.1 A q cq _ hsq2 hcq HS.out.2.2.2.2.1.1 trivial).mono ?_
    rintro e w3 ⟨kb, rfl, hast, hb2⟩
    have l1 := (hst.blk (b := pb) (by (repeat' (first | exact List.Mem.head _ | apply List.Mem.tail)); done)).lt
    have l0 := (hst.blk (b := b0) (by (repeat' (first | exact List.Mem.head _ | apply List.Mem.tail)); done)).lt
    have hsz2 := hb2.size
    replace hst := hst.below hb2
    have HA := Lib.hid (And.intro l1 (And.intro l0 (And.intro hsz2 hast)))
    clear hast hsq hsq2 hb hb2 l1 l0 hsz2
    have hta := fun v xT w => keyAssert a.kind HS.out.2.2.2.2.2 v xT w
    unfold nodeV
    go_wp2_with ((first | ((with_reducible refine at_load ?_); first | refine X1 hst ?_ | refine XW hst ?_) | ((with_reducible refine at_store ?_); (first | refine Y1 hst ?_ | refine YW hst ?_); clear hst; intro w hst)))
    go_meet
    case rel => exact ⟨kb, _, rfl, rfl, Lib.hid HA.out, hst⟩
  case rest =>
    clear hst
    obtain ⟨kb, l2, rfl, rfl, HK, hst⟩ := hcut
    have hlo : w0.heap.size ≤ pb ∧ w0.heap.size ≤ b0 := ⟨by omega, hb0⟩
    have HLO : Hid (∀ b ∈ [pb, b0], w0.heap.size ≤ b) := Lib.hid (by simp; omega)
    have HST := Lib.hid hst
    have hwa := St.watchP (L1 := [_, _]) (L2 := []) hst (bs := [pb, b0]) rfl rfl
    simp only [List.cons_append, List.nil_append] at hwa
    clear hst
    have hst := hwa
    clear hwa
    unfold nodeV
    go_upto_region 5 with ((first | ((with_reducible refine at_load ?_); first | refine X1 hst ?_ | refine XW hst ?_) | ((with_reducible refine at_store ?_); (first | refine Y1 hst ?_ | refine YW hst ?_); clear hst; intro w hst)))
    go_cut [6] (fun y wx => ∃ (b ba tk kb2 l3 e2 e3 : Nat), y = ptr b ∧ Hid (w0.heap.size ≤ b ∧ w0.heap.size ≤ ba ∧ w0.heap.size ≤ tk ∧ e2 ≤ l3 ∧ e3 ≤ wx.heap.size ∧ (∀ w'', AgreeI l2 e2 wx w'' → AstN w'' 0 l2 e2 (.cons a .nil .nil) [kb]) ∧ (∀ w'', AgreeI l3 e3 wx w'' → AstN w'' 0 l3 e3 (.cons a2 ka2 .nil) [kb2]) ∧ e2 ≤ b ∧ e3 ≤ b ∧ b0 < l3) ∧ St w0.heap.size ⟨[], []⟩ w0 wx [(some b, [ptr ba, ptr tk, .pointer none, .iface (tyOf a.kind) (ptr kb), .iface (tyOf a2.kind) (ptr kb2), .pointer none, .bool false], 144), (some ba, [.string ByteArray.empty, .pointer none, .int .i64 0], 235), (some tk, [.int .i64 ty, .int .i64 0, .int .i64 0, .string te, .string te, .string ByteArray.empty, ptr pb, .pointer none, .pointer none], 92), (some pb, [.int .i64 1, .int .i64 co, .int .i64 of, .int .i64 0, .int .i64 0], 186), (some b0, [.int .i64 13, .int .i64 ty, .string va, .string te, .string te, .string ByteArray.empty, .bool fl, .bool false, .bool false, .int .i64 1, .int .i64 co, .int .i64 of, .int .i64 0, .int .i64 0, .slice none 0 0, .slice none 0 0, .slice none 0 0, .slice none 0 0, .slice p 2 c], 31)])
    case first =>
      refine wp_plan (fun w => St w0.heap.size ⟨[], [pb, b0]⟩ wc w [(some b0, [.int .i64 13, .int .i64 ty, .string va, .string te, .string te, .string ByteArray.empty, .bool fl, .bool false, .bool false, .int .i64 1, .int .i64 co, .int .i64 of, .int .i64 0, .int .i64 0, .slice none 0 0, .slice none 0 0, .slice none 0 0, .slice none 0 0, .slice p 2 c], 31)]) [0, 1, 2, 3, 4, 5, 6, 7, 9, 10, 14] (.q 0 (.q 1 (.q 2 (.q 3 (.q 4 (.q 5 (.q 6 (.q 7 (.q 9 (.q 10 (.e2 8 true (.e 11 true (.e 12 true (.e 13 true (.q 14 (.fin))))) 11 true (.e2 8 true (.e 12 true (.e 13 true (.q 14 (.fin)))) 12 true (.e 8 true (.e 13 true (.q 14 (.fin)))))))))))))))) mixed (by kernel_rfl) (by kernel_rfl) (by kernel_rfl) (fun d v c a w h => by cases d <;> exact h) (hst.drew.sub (.cons _ (List.Sublist.refl _))) ?_
      replace hst := hst.drew
      repeat ((refine AQ ?_); first | (refine Q1 ?_; go_frame) | (refine QW ?_; go_frame) | (refine QV ?_; go_frame))
      refine at_e2 (by simp only [List.getElem?_toArray, List.getElem?_cons_succ, List.getElem?_cons_zero]; rfl) rfl (by simp only [List.getElem?_toArray, List.getElem?_cons_succ, List.getElem?_cons_zero]; rfl) rfl ?_ ?_
      · refine p_new hst (by go_simp; rfl) ?_
        clear hst
        intro tk w htk hst
        refine ⟨fun _ => hst.sub (.cons _ (.cons _ (List.Sublist.refl _))), ?_⟩
        go_frame
        refine at_e (by simp only [List.getElem?_toArray, List.getElem?_cons_succ, List.getElem?_cons_zero]; rfl) rfl ?_
        refine e_call (by go_simp <;> first | rfl | exact ⟨rfl, rfl⟩) (kid_anyI A ⟨13, ty, va, te, fl, co, of⟩ (.cons a .nil (.cons a2 ka2 .nil)) p c 1 a2 ka2 w0 _ (HST.out.unwatch (Ts := ⟨[], []⟩) hst HLO.out).kp.below (by decide) HS.out.1 rfl (by simp [F.len])) ?_
        rintro e w4 ⟨q2, cq2, rfl, hcq2, hsq3, hb3⟩
        replace hst := hst.below hb3
        have hsq4 := hsq3
        refine ⟨_, rfl, fun _ => hst.sub (.cons _ (.cons _ (List.Sublist.refl _))), ?_⟩
        unfold nval
        go_frame
        refine at_e (by simp only [List.getElem?_toArray, List.getElem?_cons_succ, List.getElem?_cons_zero]; rfl) rfl ?_
        refine e_call (by go_simp <;> first | rfl | exact ⟨rfl, rfl⟩) (HS.out.2.2.2.1 A q2 cq2 _ (hsq4.lt (HST.out.unwatch (Ts := ⟨[], []⟩) hst HLO.out).kp.below) hcq2 HS.out.2.2.2.2.1.2.1 HS.out.2.2.2.2.1.2.2) ?_
        rintro e w5 ⟨kb2, rfl, hast2, hb4⟩
        have hz4 := hst.kp.size
        have hz5 := hb4.size
        have lpb := (hst.blk (b := pb) (by (repeat' (first | exact List.Mem.head _ | apply List.Mem.tail)); done)).lt
        have lb0 := (hst.blk (b := b0) (by (repeat' (first | exact List.Mem.head _ | apply List.Mem.tail)); done)).lt
        replace hst := hst.below hb4
        refine ⟨_, rfl, fun _ => hst.sub (.cons _ (.cons _ (List.Sublist.refl _))), ?_⟩
        unfold nodeV
        go_frame
        refine at_e (by simp only [List.getElem?_toArray, List.getElem?_cons_succ, List.getElem?_cons_zero]; rfl) rfl ?_
        refine e_call (by go_simp <;> first | rfl | exact ⟨⟨rfl, rfl⟩, rfl, rfl⟩) (mvalue_any tk (tyOf a.kind) (tyOf a2.kind) (ptr kb) (ptr kb2) _) ?_
        rintro e w6 ⟨b, ba, rfl, hlb, hlba, hbb, hba, hb⟩
        have hz6 := hst.kp.size
        have hz7 := hb.size
        replace hst := hst.addNew2 hb hlb hlba hbb hba (by decide)
        refine ⟨_, rfl, fun _ => hst.sub (.cons _ (.cons _ (.cons _ (.cons _ (List.Sublist.refl _))))), ?_⟩
        go_frame
        repeat ((refine AQ ?_); first | (refine Q1 ?_; go_frame) | (refine QW ?_; go_frame) | (refine QV ?_; go_frame))
        unfold wpP
        go_wp2_with fail
        go_meet
        case rel =>
          have m1 := (hst.blk (b := b) (by (repeat' (first | exact List.Mem.head _ | apply List.Mem.tail)); done)).lt
          have m2 := (hst.blk (b := ba) (by (repeat' (first | exact List.Mem.head _ | apply List.Mem.tail)); done)).lt
          have m3 := (hst.blk (b := tk) (by (repeat' (first | exact List.Mem.head _ | apply List.Mem.tail)); done)).lt
          have hwz := HST.out.kp.size
          have ag1 := hst.agreeL (lo := l2) (by simp; exact ⟨HK.out.1, HK.out.2.1⟩)
          exact ⟨b, ba, tk, kb2, w4.heap.size, wc.heap.size, w5.heap.size, rfl, Lib.hid ⟨by omega, by omega, by omega, by omega, by omega, fun w2 ha => HK.out.2.2.2 w2 (ag1.thenI ha), fun w2 ha => hast2 w2 ((Agree.of_below hb).thenI ha), by omega, by omega, lb0⟩, HST.out.unwatch (Ts := ⟨[], []⟩) hst HLO.out⟩
      · refine e_call (by go_simp <;> first | rfl | exact ⟨rfl, rfl⟩) (kid_anyI A ⟨13, ty, va, te, fl, co, of⟩ (.cons a .nil (.cons a2 ka2 .nil)) p c 1 a2 ka2 w0 _ (HST.out.unwatch (Ts := ⟨[], []⟩) hst HLO.out).kp.below (by decide) HS.out.1 rfl (by simp [F.len])) ?_
        rintro e w4 ⟨q2, cq2, rfl, hcq2, hsq3, hb3⟩
        replace hst := hst.below hb3
        have hsq4 := hsq3
        refine ⟨_, rfl, fun _ => hst.sub (.cons _ (List.Sublist.refl _)), ?_⟩
        unfold nval
        go_frame
        refine at_e2 (by simp only [List.getElem?_toArray, List.getElem?_cons_succ, List.getElem?_cons_zero]; rfl) rfl (by simp only [List.getElem?_toArray, List.getElem?_cons_succ, List.getElem?_cons_zero]; rfl) rfl ?_ ?_
        · refine p_new hst (by go_simp; rfl) ?_
          clear hst
          intro tk w htk hst
          refine ⟨fun _ => hst.sub (.cons _ (.cons _ (List.Sublist.refl _))), ?_⟩
          go_frame
          refine at_e (by simp only [List.getElem?_toArray, List.getElem?_cons_succ, List.getElem?_cons_zero]; rfl) rfl ?_
          refine e_call (by go_simp <;> first | rfl | exact ⟨rfl, rfl⟩) (HS.out.2.2.2.1 A q2 cq2 _ (hsq4.lt (HST.out.unwatch (Ts := ⟨[], []⟩) hst HLO.out).kp.below) hcq2 HS.out.2.2.2.2.1.2.1 HS.out.2.2.2.2.1.2.2) ?_
          rintro e w5 ⟨kb2, rfl, hast2, hb4⟩
          have hz4 := hst.kp.size
          have hz5 := hb4.size
          have lpb := (hst.blk (b := pb) (by (repeat' (first | exact List.Mem.head _ | apply List.Mem.tail)); done)).lt
          have lb0 := (hst.blk (b := b0) (by (repeat' (first | exact List.Mem.head _ | apply List.Mem.tail)); done)).lt
          replace hst := hst.below hb4
          refine ⟨_, rfl, fun _ => hst.sub (.cons _ (.cons _ (List.Sublist.refl _))), ?_⟩
          unfold nodeV
          go_frame
          refine at_e (by simp only [List.getElem?_toArray, List.getElem?_cons_succ, List.getElem?_cons_zero]; rfl) rfl ?_
          refine e_call (by go_simp <;> first | rfl | exact ⟨⟨rfl, rfl⟩, rfl, rfl⟩) (mvalue_any tk (tyOf a.kind) (tyOf a2.kind) (ptr kb) (ptr kb2) _) ?_
          rintro e w6 ⟨b, ba, rfl, hlb, hlba, hbb, hba, hb⟩
          have hz6 := hst.kp.size
          have hz7 := hb.size
          replace hst := hst.addNew2 hb hlb hlba hbb hba (by decide)
          refine ⟨_, rfl, fun _ => hst.sub (.cons _ (.cons _ (.cons _ (.cons _ (List.Sublist.refl _))))), ?_⟩
          go_frame
          repeat ((refine AQ ?_); first | (refine Q1 ?_; go_frame) | (refine QW ?_; go_frame) | (refine QV ?_; go_frame))
          unfold wpP
          go_wp2_with fail
          go_meet
          case rel =>
            have m1 := (hst.blk (b := b) (by (repeat' (first | exact List.Mem.head _ | apply List.Mem.tail)); done)).lt
            have m2 := (hst.blk (b := ba) (by (repeat' (first | exact List.Mem.head _ | apply List.Mem.tail)); done)).lt
            have m3 := (hst.blk (b := tk) (by (repeat' (first | exact List.Mem.head _ | apply List.Mem.tail)); done)).lt
            have hwz := HST.out.kp.size
            have ag1 := hst.agreeL (lo := l2) (by simp; exact ⟨HK.out.1, HK.out.2.1⟩)
            exact ⟨b, ba, tk, kb2, w.heap.size, wc.heap.size, w5.heap.size, rfl, Lib.hid ⟨by omega, by omega, by omega, by omega, by omega, fun w2 ha => HK.out.2.2.2 w2 (ag1.thenI ha), fun w2 ha => hast2 w2 ((Agree.of_below hb).thenI ha), by omega, by omega, lb0⟩, HST.out.unwatch (Ts := ⟨[], []⟩) hst HLO.out⟩
        · refine e_call (by go_simp <;> first | rfl | exact ⟨rfl, rfl⟩) (HS.out.2.2.2.1 A q2 cq2 _ (hsq4.lt (HST.out.unwatch (Ts := ⟨[], []⟩) hst HLO.out).kp.below) hcq2 HS.out.2.2.2.2.1.2.1 HS.out.2.2.2.2.1.2.2) ?_
          rintro e w5 ⟨kb2, rfl, hast2, hb4⟩
          have hz4 := hst.kp.size
          have hz5 := hb4.size
          have lpb := (hst.blk (b := pb) (by (repeat' (first | exact List.Mem.head _ | apply List.Mem.tail)); done)).lt
          have lb0 := (hst.blk (b := b0) (by (repeat' (first | exact List.Mem.head _ | apply List.Mem.tail)); done)).lt
          replace hst := hst.below hb4
          refine ⟨_, rfl, fun _ => hst.sub (.cons _ (List.Sublist.refl _)), ?_⟩
          unfold nodeV
          go_frame
          have HWC := Lib.hid hst
          have hwa := St.watchP (L1 := [_, _]) (L2 := []) (Ts := ⟨[], [pb, b0]⟩) hst (bs := [pb, b0]) rfl rfl
          simp only [List.cons_append, List.nil_append] at hwa
          clear hst
          have hst := hwa
          clear hwa
          refine at_e (by simp only [List.getElem?_toArray, List.getElem?_cons_succ, List.getElem?_cons_zero]; rfl) rfl ?_
          refine p_new hst (by go_simp; rfl) ?_
          clear hst
          intro tk w htk hst
          refine ⟨fun _ => (HWC.out.chain hst).sub (.cons _ (.cons _ (List.Sublist.refl _))), ?_⟩
          go_frame
          refine at_e (by simp only [List.getElem?_toArray, List.getElem?_cons_succ, List.getElem?_cons_zero]; rfl) rfl ?_
          refine e_call (by go_simp <;> first | rfl | exact ⟨⟨rfl, rfl⟩, rfl, rfl⟩) (mvalue_any tk (tyOf a.kind) (tyOf a2.kind) (ptr kb) (ptr kb2) _) ?_
          rintro e w6 ⟨b, ba, rfl, hlb, hlba, hbb, hba, hb⟩
          have hz6 := hst.kp.size
          have hz7 := hb.size
          replace hst := hst.addNew2 hb hlb hlba hbb hba (by decide)
          refine ⟨_, rfl, fun _ => (HWC.out.chain hst).sub (.cons _ (.cons _ (.cons _ (.cons _ (List.Sublist.refl _))))), ?_⟩
          go_frame
          repeat ((refine AQ ?_); first | (refine Q1 ?_; go_frame) | (refine QW ?_; go_frame) | (refine QV ?_; go_frame))
          unfold wpP
          go_wp2_with fail
          go_meet
          case rel =>
            have m1 := (hst.blk (b := b) (by (repeat' (first | exact List.Mem.head _ | apply List.Mem.tail)); done)).lt
            have m2 := (hst.blk (b := ba) (by (repeat' (first | exact List.Mem.head _ | apply List.Mem.tail)); done)).lt
            have m3 := (hst.blk (b := tk) (by (repeat' (first | exact List.Mem.head _ | apply List.Mem.tail)); done)).lt
            have hwz := HST.out.kp.size
            have ag1 := (HWC.out.chain hst).agreeL (lo := l2) (by simp; exact ⟨HK.out.1, HK.out.2.1⟩)
            have ag2 := hst.agreeL (lo := w4.heap.size) (by simp; omega)
            exact ⟨b, ba, tk, kb2, w4.heap.size, wc.heap.size, w5.heap.size, rfl, Lib.hid ⟨by omega, by omega, by omega, by omega, by omega, fun w2 ha => HK.out.2.2.2 w2 (ag1.thenI ha), fun w2 ha => hast2 w2 (ag2.thenI ha), by omega, by omega, lb0⟩, HST.out.unwatch (Ts := ⟨[], []⟩) (HWC.out.chain hst) HLO.out⟩
    case rest =>
    clear hst
    obtain ⟨b, ba, tk, kb2, l3, e2, e3, rfl, HC, hst⟩ := hcut
    have HST2 := Lib.hid hst
    have hwa := St.watchP (L1 := [_, _]) (L2 := []) (hst.sub (.cons_cons _ (.cons _ (.cons _ (.cons _ (List.Sublist.refl _)))))) (bs := [b, b0]) rfl rfl
    simp only [List.cons_append, List.nil_append] at hwa
    clear hst
    have hst := hwa
    clear hwa
    go_upto_region 6 with fail
    refine wp_plan (fun w => St w0.heap.size ⟨[], []⟩ w0 w [(some b0, [.int .i64 13, .int .i64 ty, .string va, .string te, .string te, .string ByteArray.empty, .bool fl, .bool false, .bool false, .int .i64 1, .int .i64 co, .int .i64 of, .int .i64 0, .int .i64 0, .slice none 0 0, .slice none 0 0, .slice none 0 0, .slice none 0 0, .slice p 2 c], 31)]) [0, 1, 2, 3, 4, 5, 6] (.q 0 (.q 1 (.q 2 (.q 3 (.q 4 (.q 5 (.q 6 (.e 7 true (.e 8 true (.e 9 true (.e 10 true (.e 11 false (.e 12 false (.e 13 false (.fin))))))))))))))) mixed (by kernel_rfl) (by kernel_rfl) (by kernel_rfl) (fun d v c a w h => by cases d <;> exact h) (HST2.out.drew.sub (.cons _ (.cons _ (.cons _ (.cons _ (List.Sublist.refl _)))))) ?_
    replace hst := hst.drew
    repeat ((refine AQ ?_); first | (refine Q1 ?_; go_frame) | (refine QW ?_; go_frame) | (refine QV ?_; go_frame))
    refine at_e (by simp only [List.getElem?_toArray, List.getElem?_cons_succ, List.getElem?_cons_zero]; rfl) rfl ?_
    refine e_call (by go_simp <;> first | rfl | exact ⟨rfl, rfl⟩) (comments_nil _ _) ?_
    rintro e w1 ⟨rfl, rfl⟩
    refine ⟨_, rfl, fun _ => HST2.out.drew.sub (.cons _ (.cons _ (.cons _ (.cons _ (List.Sublist.refl _))))), ?_⟩
    go_frame
    refine at_e (by simp only [List.getElem?_toArray, List.getElem?_cons_succ, List.getElem?_cons_zero]; rfl) rfl ?_
    refine e_val (by go_simp; first | rfl | exact ⟨rfl, rfl⟩) (fun h => by first | exact absurd h (by decide) | exact ((HST2.out.sub (.cons_cons _ (.cons _ (.cons _ (.cons _ (List.Sublist.refl _)))))).unwatch (Ts := ⟨[], []⟩) hst (by simp; exact ⟨HC.out.1, hb0⟩)).sub (.cons _ (List.Sublist.refl _))) ?_
    go_frame
    refine at_e (by simp only [List.getElem?_toArray, List.getElem?_cons_succ, List.getElem?_cons_zero]; rfl) rfl ?_
    refine e_val (by go_simp; first | rfl | exact ⟨rfl, rfl⟩) (fun h => by first | exact absurd h (by decide) | exact ((HST2.out.sub (.cons_cons _ (.cons _ (.cons _ (.cons _ (List.Sublist.refl _)))))).unwatch (Ts := ⟨[], []⟩) hst (by simp; exact ⟨HC.out.1, hb0⟩)).sub (.cons _ (List.Sublist.refl _))) ?_
    go_frame
    refine at_e (by simp only [List.getElem?_toArray, List.getElem?_cons_succ, List.getElem?_cons_zero]; rfl) rfl ?_
    (refine E1 hst ?_; clear hst; intro w hst; refine ⟨?_, ?_⟩; rotate_left; go_frame)
    · refine at_e (by simp only [List.getElem?_toArray, List.getElem?_cons_succ, List.getElem?_cons_zero]; rfl) rfl ?_
      refine e_val (by go_simp; first | rfl | exact ⟨rfl, rfl⟩) (fun h => by first | exact absurd h (by decide) | exact ((HST2.out.sub (.cons_cons _ (.cons _ (.cons _ (.cons _ (List.Sublist.refl _)))))).unwatch (Ts := ⟨[], []⟩) hst (by simp; exact ⟨HC.out.1, hb0⟩)).sub (.cons _ (List.Sublist.refl _))) ?_
      go_frame
      refine at_e (by simp only [List.getElem?_toArray, List.getElem?_cons_succ, List.getElem?_cons_zero]; rfl) rfl ?_
      refine e_val (by go_simp; first | rfl | exact ⟨rfl, rfl⟩) (fun h => by first | exact absurd h (by decide) | exact ((HST2.out.sub (.cons_cons _ (.cons _ (.cons _ (.cons _ (List.Sublist.refl _)))))).unwatch (Ts := ⟨[], []⟩) hst (by simp; exact ⟨HC.out.1, hb0⟩)).sub (.cons _ (List.Sublist.refl _))) ?_
      go_frame
      refine at_e (by simp only [List.getElem?_toArray, List.getElem?_cons_succ, List.getElem?_cons_zero]; rfl) rfl ?_
      (refine E1 hst ?_; clear hst; intro w hst; refine ⟨?_, ?_⟩; rotate_left; go_frame)
      · unfold wpP
        go_wp2_with ((first | ((with_reducible refine at_load ?_); first | refine X1 hst ?_ | refine XW hst ?_) | ((with_reducible refine at_store ?_); (first | refine Y1 hst ?_ | refine YW hst ?_); clear hst; intro w hst)))
        refine ret_tmp rfl rfl rfl ?_
        obtain ⟨k1, k2, k3, k4, k5, k6, k7, k8, k9, k10⟩ := HC.out
        have hun := (HST2.out.sub (.cons_cons _ (.cons _ (.cons _ (.cons _ (List.Sublist.refl _)))))).unwatch (Ts := ⟨[], []⟩) hst (by simp; exact ⟨k1, hb0⟩)
        have h9 := hst.kp.size
        have bba := (HST2.out.blk (b := ba) (by (repeat' (first | exact List.Mem.head _ | apply List.Mem.tail)); done)).keep hst (HST2.out.ne_of (i := 1) (j := 0) (by decide) rfl rfl ba rfl) (HST2.out.ne_of (i := 1) (j := 4) (by decide) rfl rfl ba rfl)
        have btk := (HST2.out.blk (b := tk) (by (repeat' (first | exact List.Mem.head _ | apply List.Mem.tail)); done)).keep hst (HST2.out.ne_of (i := 2) (j := 0) (by decide) rfl rfl tk rfl) (HST2.out.ne_of (i := 2) (j := 4) (by decide) rfl rfl tk rfl)
        have bpb := (HST2.out.blk (b := pb) (by (repeat' (first | exact List.Mem.head _ | apply List.Mem.tail)); done)).keep hst (HST2.out.ne_of (i := 3) (j := 0) (by decide) rfl rfl pb rfl) (HST2.out.ne_of (i := 3) (j := 4) (by decide) rfl rfl pb rfl)
        have bb := hun.blk (b := b) (by (repeat' (first | exact List.Mem.head _ | apply List.Mem.tail)); done)
        refine ⟨b, rfl, fun w'' ha => ⟨b, [], ba, tk, pb, l2, w.heap.size, [kb, kb2], rfl, hlo.1, HK.out.1, ⟨btk.agree ha k3, by rw [Int.add_zero]; exact bpb.agree ha hlo.1⟩, bba.agree ha k2, ?_, AstN.two (k6 w'' (hst.agreeI k8 HK.out.2.1 (by have := HK.out.1; omega) ha)) (k7 w'' (hst.agreeI k9 k10 (by omega) ha)) (Nat.le_refl _) k4 (by omega), rfl, Nat.le_refl _⟩, hun.kp.below⟩
        exact .inr (.inr (.inr (.inr (.inr (.inr (.inr (.inr (.inr (.inl ⟨rfl, _, _, rfl, bb.agree ha k1⟩)))))))))
      · first | (intro h; exact absurd h (by decide)) | exact (fun _ => ((HST2.out.sub (.cons_cons _ (.cons _ (.cons _ (.cons _ (List.Sublist.refl _)))))).unwatch (Ts := ⟨[], []⟩) hst (by simp; exact ⟨HC.out.1, hb0⟩)).sub (.cons _ (List.Sublist.refl _)))
    · first | (intro h; exact absurd h (by decide)) | exact (fun _ => ((HST2.out.sub (.cons_cons _ (.cons _ (.cons _ (.cons _ (List.Sublist.refl _)))))).unwatch (Ts := ⟨[], []⟩) hst (by simp; exact ⟨HC.out.1, hb0⟩)).sub (.cons _ (List.Sublist.refl _)))
end Go.Proofs.YtpajcfkldnbpfaaGreatDoor
namespace Go.Proofs.YtpajcfkldnbpfaaGreatDoor
open Go.RowKit
def AgreeC (C : Nat → Prop) (w w' : World) : Prop := ∀ (i : Nat) (cs : Array Value) (t : Nat) (fr : Nat × Nat), C i → w.heap[i]? = some (.cells cs t fr) → w'.heap[i]? = some (.cells cs t fr)
theorem AstN.snoc {w : World} {c : Int} {x : NH} {kx : F NH} {bx l1 h1 : Nat} (hx : AstN w c l1 h1 (.cons x kx .nil) [bx]) : ∀ {f : F NH} {lo mid : Nat} {bs : List Nat}, AstN w c lo mid f bs → mid ≤ l1 → AstN w c lo h1 (f.snoc x kx) (bs ++ [bx]) := by
  intro f
  induction f with
  | nil =>
    rintro lo mid bs ⟨rfl, h⟩ hm
    exact hx.widen (by omega) (Nat.le_refl _)
  | cons h k r ihk ihr =>
    rintro lo mid bs ⟨b, bs', ba, tk, pb, m1, md, kb, rfl, h1, h2, h3, h4, h5, h6, h7⟩ hm
    exact ⟨b, bs' ++ [bx], ba, tk, pb, m1, md, kb, rfl, h1, h2, h3, h4, h5, h6, ihr h7 hm⟩
theorem AstN.lohi {w : World} {c : Int} : ∀ {f : F NH} {lo hi : Nat} {bs : List Nat}, AstN w c lo hi f bs → lo ≤ hi := by
  intro f
  induction f with
  | nil => rintro lo hi bs ⟨_, h⟩; exact h
  | cons h k r ihk ihr =>
    rintro lo hi bs ⟨b, bs', ba, tk, pb, m1, md, kb, e, h1, h2, h3, h4, h5, h6, h7⟩
    have := ihk h6
    have := ihr h7
    omega
def Made (w0 wx : World) (f : F NH) (bs : List Nat) (no : List (Option Nat)) : Prop := ∃ C : Nat → Prop, (∀ i, C i → w0.heap.size ≤ i ∧ i < wx.heap.size ∧ some i ∉ no) ∧ ∀ w'', AgreeC C wx w'' → AstN w'' 0 w0.heap.size wx.heap.size f bs
theorem Made.nil (w0 wx : World) (no : List (Option Nat)) (h : w0.heap.size ≤ wx.heap.size) : Made w0 wx .nil [] no := ⟨fun _ => False, fun _ h => h.elim, fun _ _ => ⟨rfl, h⟩⟩
theorem Made.snoc {w0 wx w1 w2 : World} {f : F NH} {bs : List Nat} {no : List (Option Nat)} (h : Made w0 wx f bs no) (h1 : ∀ b, some b ∈ no → b < w1.heap.size) (hb : Below wx.heap.size wx w1) {x : NH} {kx : F NH} {bx : Nat} (hx : ∀ w'', Agree w1.heap.size w2 w'' → AstN w'' 0 w1.heap.size w2.heap.size (.cons x kx .nil) [bx]) (hb2 : Below w1.heap.size w1 w2) : Made w0 w2 (f.snoc x kx) (bs ++ [bx]) no := by
  obtain ⟨C, hC, hA⟩ := h
  have s1 := hb.size
  have s2 := hb2.size
  refine ⟨fun i => C i ∨ (w1.heap.size ≤ i ∧ i < w2.heap.size), fun i hi => ?_, fun w'' ha => ?_⟩
  · rcases hi with hi | ⟨hi, hi2⟩
    · obtain ⟨a, b, c⟩ := hC i hi
      exact ⟨a, by omega, c⟩
    · have h3 : w0.heap.size ≤ wx.heap.size := by
        have := hA wx (fun _ _ _ _ _ h => h)
        exact AstN.lohi this
      exact ⟨by omega, hi2, fun hm => by have := h1 i hm; omega⟩
  · refine AstN.snoc (hx w'' fun i cs t fr hi hbk => ha i cs t fr (.inr ⟨hi, lt_of_heap hbk⟩) hbk) (hA w'' fun i cs t fr hi hbk => ha i cs t fr (.inl hi) ?_) s1
    have hlt := lt_of_heap hbk
    rw [hb2.block i (by omega), hb.block i hlt]
    exact hbk
theorem Made.keep {w0 wx w : World} {f : F NH} {bs : List Nat} {no no' : List (Option Nat)} (h : Made w0 wx f bs no) (hsz : wx.heap.size ≤ w.heap.size) (hk : ∀ (i : Nat) (cs : Array Value) (t : Nat) (fr : Nat × Nat), some i ∉ no → w0.heap.size ≤ i → wx.heap[i]? = some (.cells cs t fr) → w.heap[i]? = some (.cells cs t fr) ∧ some i ∉ no') (hc : ∀ i, i < wx.heap.size → w0.heap.size ≤ i → some i ∉ no → some i ∉ no') : Made w0 w f bs no' := by
  obtain ⟨C, hC, hA⟩ := h
  refine ⟨C, fun i hi => ?_, fun w'' ha => (hA w'' fun i cs t fr hi hbk => ha i cs t fr hi (hk i cs t fr (hC i hi).2.2 (hC i hi).1 hbk).1).widen (Nat.le_refl _) hsz⟩
  obtain ⟨a, b, c⟩ := hC i hi
  exact ⟨a, by omega, hc i b a c⟩
end Go.Proofs.YtpajcfkldnbpfaaGreatDoor
namespace Go.Proofs.YtpajcfkldnbpfaaGreatDoor
open Go.RowKit
def PairC (x : NH) (kk : F NH) : Prop := (1 ≤ x.col ∧ x.col ≤ 200) ∧ ∀ (A : Nat → Nat → Prop) (q : Option Addr) (cq : Nat) (w : World), SlT A w q kk → kk.len ≤ cq → Calls Tryz.prog 72 #[nval x (.slice q kk.len cq)] w (PairR x kk w)
def PairsR (k : F NH) (w : World) (e : Ending) (w' : World) : Prop := ∃ (oid : Option Nat) (cap : Nat) (bs : List Nat) (sp : List Value), e = .returned (.slice (slP oid) k.len cap) ∧ bs.length = k.len ∧ Gr 1 oid k.len cap (bs.map ptr) sp ∧ (k.len = 0 → oid = none) ∧ St w.heap.size ⟨[], []⟩ w w' [(oid, bs.map ptr ++ sp, 137)] ∧ Made w w' k bs [oid]
set_option maxRecDepth 100000 in
set_option maxHeartbeats 1000000 in
theorem pairs_any (A : Nat → Nat → Prop) (k : F NH) (p : Option Addr) (c : Nat) (w0 : World) (hs : SlT A w0 p k) (hl : k.len ≤ 1000) (hP : ∀ i x kk, k.get i = some (x, kk) → PairC x kk) : Calls Tryz.prog 70 #[.slice p k.len c] w0 (PairsR k w0) := by
  have HS := Lib.hid (And.intro hs hP)
  clear hs hP
  go_enter Tryz.func70, Tryz.ntmps70
  go_wp2
  go_loopw [10, 3] (fun i o wx => ∃ m : Nat, i = .int .i64 m ∧ m ≤ k.len ∧ ∃ (oid : Option Nat) (cap : Nat) (bs : List Nat) (sp : List Value), o = .slice (slP oid) m cap ∧ Hid (bs.length = m ∧ Gr 1 oid m cap (bs.map ptr) sp ∧ Made w0 wx (k.take m) bs [oid] ∧ (m = 0 → oid = none)) ∧ Hid (St w0.heap.size ⟨[], []⟩ w0 wx [(oid, bs.map ptr ++ sp, 137)])) (fun i _ _ => k.len - (intOf i).toNat)
  case atStart => exact ⟨0, rfl, Nat.zero_le _, none, 0, [], [], rfl, Lib.hid ⟨rfl, Gr.empty 1, by rw [show k.take 0 = .nil by cases k <;> rfl]; exact Made.nil _ _ _ (Nat.le_refl _), fun _ => rfl⟩, Lib.hid ((St.nil w0.heap.size ⟨[], []⟩ w0 (Nat.le_refl _)).addNone [] 137)⟩
  case round =>
    obtain ⟨m, rfl, hmk, oidO, capO, bs, spO, rfl, HI, HL⟩ := hrel
    by_cases hm : (m : Int) < k.len
    · obtain ⟨x, kk, hg⟩ := F.get_lt (f := k) (i := m) (by omega)
      obtain ⟨pb, po, q, capq, tq, rfl, hcap, hslq, -, hlt, hcc⟩ := Sl.at2 HS.out.1.1 hg
      have hlow := HL.out.kp.low pb hlt
      have hcell : ∀ (j : Nat) (v : Value), ([.int .i64 x.kind, .int .i64 x.typ, .string x.value, .string x.text, .string x.text, .string ByteArray.empty, .bool x.flow, .bool false, .bool false, .int .i64 1, .int .i64 x.col, .int .i64 x.off, .int .i64 0, .int .i64 0, .slice none 0 0, .slice none 0 0, .slice none 0 0, .slice none 0 0, .slice q kk.len capq] : List Value)[j]? = some v → wr.cell? ⟨pb, po + m * 19 + j, none⟩ = some v := fun j v hv => by
        have h1 := hcc j v hv
        simp only [World.cell?] at h1 ⊢
        rw [hlow]
        exact h1
      have HC := Lib.hid (And.intro hcell (And.intro hcap (And.intro (show SlT A w0 q kk from ⟨hslq, HS.out.1.2⟩) hg)))
      clear hcell hcap hslq hg hlt hcc hlow
      have hst := St.nil wr.heap.size ⟨[], []⟩ wr (Nat.le_refl _)
      go_wp2_with (first | ((with_reducible refine at_load ?_); refine wl_ldc (vs := [.int .i64 x.kind, .int .i64 x.typ, .string x.value, .string x.text, .string x.text, .string ByteArray.empty, .bool x.flow, .bool false, .bool false, .int .i64 1, .int .i64 x.col, .int .i64 x.off, .int .i64 0, .int .i64 0, .slice none 0 0, .slice none 0 0, .slice none 0 0, .slice none 0 0, .slice q kk.len capq]) rfl rfl rfl HC.out.1 (by exact agg_of rfl rfl) ?_) | (first | ((with_reducible refine at_load ?_); first | refine X1 hst ?_ | refine XW hst ?_) | ((with_reducible refine at_store ?_); (first | refine Y1 hst ?_ | refine YW hst ?_); clear hst; intro w hst) | ((first | ((with_reducible refine at_alloc ?_); refine ZP hst ?_) | ((with_reducible refine at_box ?_); refine ZP hst ?_) | ((with_reducible refine at_bslice ?_); refine ZS hst ?_)); clear hst; (first | ((fail_if_success have := b0); intro b0 w hb0 hst) | (intro b1 w hb1 hst)))))
      have hpc := HS.out.2 m x kk HC.out.2.2.2
      refine (hpc.2 A q capq _ (HC.out.2.2.1.lt (HL.out.kp.below.trans (hst.kp.below.mono HL.out.kp.size))) HC.out.2.1).mono ?_
      rintro e w2 ⟨bx, rfl, hast, hb⟩
      have hmade := HI.out.2.2.1.snoc (fun b hb => by
        have e1 : oidO = some b := (List.mem_singleton.1 hb).symm
        subst e1
        exact Nat.lt_of_lt_of_le (lt_of_heap (HL.out.heap (by (repeat' (first | exact List.Mem.head _ | apply List.Mem.tail)); done))) hst.kp.size) hst.kp.below hast hb
      have HM := Lib.hid hmade
      replace hst := hst.below hb
      have hw2 := hst
      clear hmade hast hb
      go_upto_region 6 with ((first | ((with_reducible refine at_load ?_); first | refine X1 hst ?_ | refine XW hst ?_) | ((with_reducible refine at_store ?_); (first | refine Y1 hst ?_ | refine YW hst ?_); clear hst; intro w hst)))
      refine wp_plan (fun w => St wr.heap.size ⟨[], []⟩ wr w [(some b0, [.int .i64 x.kind, .int .i64 x.typ, .string x.value, .string x.text, .string x.text, .string ByteArray.empty, .bool x.flow, .bool false, .bool false, .int .i64 1, .int .i64 x.col, .int .i64 x.off, .int .i64 0, .int .i64 0, .slice none 0 0, .slice none 0 0, .slice none 0 0, .slice none 0 0, .slice q kk.len capq], 31)]) [0, 1, 2, 3, 6] (.q 0 (.q 1 (.q 2 (.q 3 (.e 4 true (.e 5 true (.q 6 (.fin)))))))) mixed (by kernel_rfl) (by kernel_rfl) (by kernel_rfl) (fun d v c a w h => by cases d <;> exact h) hst.drew ?_
      replace hst := hst.drew
      repeat ((refine AQ ?_); first | (refine Q1 ?_; go_frame) | (refine QW ?_; go_frame) | (refine QV ?_; go_frame))
      (refine AQ ?_)
      refine p_sub (vs := [.int .i64 1, .int .i64 x.col, .int .i64 x.off, .int .i64 0, .int .i64 0]) (.there (.there (.there (.there (.there (.there (.there (.there (.there (.here (.cons (.cons (.cons (.cons (.cons .nil))))))))))))))) rfl rfl rfl (by (repeat' (first | exact List.Mem.head _ | apply List.Mem.tail)); done) (by exact agg_of rfl rfl) ?_
      go_frame
      repeat ((refine AQ ?_); first | (refine Q1 ?_; go_frame) | (refine QW ?_; go_frame) | (refine QV ?_; go_frame))
      refine at_e (by simp only [List.getElem?_toArray, List.getElem?_cons_succ, List.getElem?_cons_zero]; rfl) rfl ?_
      refine e_call (by go_simp <;> first | rfl | exact ⟨rfl, rfl⟩) (position_any x.col x.off _ hpc.1.1 hpc.1.2) ?_
      rintro e w3 ⟨pbx, rfl, -, -, hb⟩
      have hst3 := hst
      replace hst := hst.below hb
      refine ⟨_, rfl, fun _ => hst, ?_⟩
      go_frame
      refine at_e (by simp only [List.getElem?_toArray, List.getElem?_cons_succ, List.getElem?_cons_zero]; rfl) rfl ?_
      refine e_call (by go_simp <;> first | rfl | exact ⟨rfl, rfl⟩) (comments_nil _ _) ?_
      rintro e w4 ⟨rfl, rfl⟩
      refine ⟨_, rfl, fun _ => hst, ?_⟩
      go_frame
      repeat ((refine AQ ?_); first | (refine Q1 ?_; go_frame) | (refine QW ?_; go_frame) | (refine QV ?_; go_frame))
      unfold wpP
      have hfull := HL.out.below hst.kp.below
      have hmade := HM.out.keep (w := w3) (no' := [oidO]) hb.size (fun i cs t fr hno hlo hbk => ⟨(hb.block i (lt_of_heap hbk)).trans hbk, hno⟩) (fun i _ _ h => h)
      have hwa := St.watchP (L1 := [_]) (L2 := []) hfull (bs := oidO.toList) (by cases oidO <;> rfl) rfl
      simp only [List.cons_append, List.nil_append] at hwa
      have HF := Lib.hid (And.intro hfull hmade)
      have hgr := HI.out.2.1
      clear hst hst3 hfull hmade hb hw2
      have hst := hwa
      clear hwa
      go_wp2_with (first | (first | ((with_reducible refine at_bslice ?_); (refine ZS hst ?_; clear hst; (first | ((fail_if_success have := b0); intro b0 w hb0 hst) | (intro b1 w hb1 hst)))) | ((with_reducible refine at_append ?_); (refine wl_appH hst rfl rfl rfl rfl (by first | exact el213 | exact el22 | exact el28 | exact el29 | exact el48 | exact el52 | exact el134 | exact el146 | exact el205) hgr (by decide) (by decide) rfl rfl (by omega) (by simp only [maxLen]; omega) ?_; clear hst hgr; intro oid cap sp w hst hgr hno))) | (first | ((with_reducible refine at_load ?_); first | refine X1 hst ?_ | refine XW hst ?_) | ((with_reducible refine at_store ?_); (first | refine Y1 hst ?_ | refine YW hst ?_); clear hst; intro w hst)))
      go_round
      case rel =>
        have hlo : ∀ b ∈ oidO.toList, w0.heap.size ≤ b := fun b hb => by
          have e1 : oidO = some b := by simpa using hb
          subst e1
          rcases (HF.out.1.rows b _ 137 (by (repeat' (first | exact List.Mem.head _ | apply List.Mem.tail)); done)).2 with h5 | ⟨_, h5 | h5⟩
          · exact h5
          · cases h5
          · cases h5
        have hnot : ∀ i, i < w3.heap.size → some i ∉ [oidO] → some i ∉ [oid] := fun i hi hno hm => by
          have e1 := List.mem_singleton.1 hm
          rcases (hst.rows i _ 137 (by rw [e1]; exact List.Mem.head _)).2 with h5 | ⟨_, h5 | h5⟩
          · omega
          · cases h5
          · exact hno (List.mem_singleton.2 (Option.mem_toList.1 h5).symm)
        refine ⟨m + 1, by rw [show (m : Int) + 1 = ((m + 1 : Nat) : Int) by omega], by omega, oid, cap, bs ++ [bx], sp, rfl, Lib.hid ⟨by rw [List.length_append, HI.out.1]; rfl, by rw [List.map_append]; exact hgr, ?_, fun h => absurd h (by omega)⟩, Lib.hid (by rw [List.map_append]; exact HF.out.1.unwatch (Ts := ⟨[], []⟩) hst hlo)⟩
        rw [F.take_succ HC.out.2.2.2]
        refine HF.out.2.keep hst.kp.size (fun i cs t fr hno hlo2 hbk => ⟨hst.kp.typ i cs t fr hbk List.not_mem_nil (fun hm => ?_), hnot i (lt_of_heap hbk) hno⟩) (fun i h1 _ h2 => hnot i h1 h2)
        exact hno (List.mem_singleton.2 (Option.mem_toList.1 hm).symm)
      case measure => simp [intOf]; omega
    · have hmk2 : m = k.len := by omega
      subst hmk2
      go_wp2
      refine ret_tmp rfl rfl rfl ?_
      have h1 := HI.out.2.2.1
      rw [F.take_len] at h1
      exact ⟨oidO, capO, bs, spO, rfl, HI.out.1, HI.out.2.1, HI.out.2.2.2, HL.out, h1⟩
end Go.Proofs.YtpajcfkldnbpfaaGreatDoor
namespace Go.Proofs.YtpajcfkldnbpfaaGreatDoor
open Go.RowKit
def MapR (tk : Nat) (flow : Bool) (vs : List Value) (w : World) (e : Ending) (w' : World) : Prop := ∃ (b ba g c : Nat) (sp : List Value), e = .returned (ptr b) ∧ w.heap.size ≤ b ∧ w.heap.size ≤ ba ∧ w.heap.size ≤ g ∧ Blk w' b 136 [ptr ba, ptr tk, .pointer none, .bool flow, .slice (some ⟨g, 0, none⟩) vs.length c, .pointer none] ∧ vs.length ≤ c ∧ Blk w' g 137 (vs ++ sp) ∧ Blk w' ba 235 [.string ByteArray.empty, .pointer none, .int .i64 0] ∧ Below w.heap.size w w'
set_option maxRecDepth 100000 in
set_option maxHeartbeats 1000000 in
theorem mapping_nil (tk : Nat) (flow : Bool) (w0 : World) : Calls Tryz.prog 69 #[ptr tk, .bool flow, .slice none 0 0] w0 (MapR tk flow [] w0) := by
  have hst := St.nil w0.heap.size ⟨[], []⟩ w0 (Nat.le_refl _)
  go_enter Tryz.func69, Tryz.ntmps69
  go_wp2_with ((first | ((with_reducible refine at_load ?_); first | refine X1 hst ?_ | refine XW hst ?_) | ((with_reducible refine at_store ?_); (first | refine Y1 hst ?_ | refine YW hst ?_); clear hst; intro w hst) | ((first | ((with_reducible refine at_alloc ?_); refine ZP hst ?_) | ((with_reducible refine at_box ?_); refine ZP hst ?_) | ((with_reducible refine at_bslice ?_); refine ZS hst ?_)); clear hst; (first | ((fail_if_success have := b0); intro b0 w hb0 hst) | ((fail_if_success have := b1); intro b1 w hb1 hst) | ((fail_if_success have := b2); intro b2 w hb2 hst) | (intro b3 w hb3 hst)))))
  refine ret_tmp rfl rfl rfl ?_
  exact ⟨b2, b0, b1, 0, [], rfl, hb2, hb0, hb1, hst.blk (by (repeat' (first | exact List.Mem.head _ | apply List.Mem.tail)); done), Nat.le_refl _, hst.blk (by (repeat' (first | exact List.Mem.head _ | apply List.Mem.tail)); done), hst.blk (by (repeat' (first | exact List.Mem.head _ | apply List.Mem.tail)); done), hst.kp.below⟩
set_option maxRecDepth 100000 in
set_option maxHeartbeats 1000000 in
theorem mapping_some (tk : Nat) (flow : Bool) (g n c : Nat) (vs sp : List Value) (w0 : World) (hn : vs.length = n) (h0 : 0 < n) (hl : n ≤ 1000) (hb : Blk w0 g 137 (vs ++ sp)) (h1 : (vs.all Value.oneCell') = true) : Calls Tryz.prog 69 #[ptr tk, .bool flow, .slice (some ⟨g, 0, none⟩) n c] w0 (MapR tk flow vs w0) := by
  have hst := St.nil w0.heap.size ⟨[], []⟩ w0 (Nat.le_refl _)
  have HB := Lib.hid (And.intro hn (And.intro hb h1))
  clear hn hb h1
  go_enter Tryz.func69, Tryz.ntmps69
  go_wp2_with (first | ((with_reducible refine at_append ?_); refine wl_app (i := 1) (oid := some b1) (n := 0) (xs := []) (sp := []) (news := vs) hst rfl rfl rfl rfl (by first | exact el213 | exact el22 | exact el28 | exact el29 | exact el48 | exact el52 | exact el134 | exact el146 | exact el205) rfl ⟨rfl, rfl, Nat.le_refl _, by simp [maxLen], fun h => by cases h⟩ (by decide) h0 (by rw [HB.out.1, Nat.mul_one]) (fun j v hv => ?_) HB.out.2.2 (by omega) (by simp only [maxLen]; omega) ?_) | (first | ((with_reducible refine at_load ?_); first | refine X1 hst ?_ | refine XW hst ?_) | ((with_reducible refine at_store ?_); (first | refine Y1 hst ?_ | refine YW hst ?_); clear hst; intro w hst) | ((first | ((with_reducible refine at_alloc ?_); refine ZP hst ?_) | ((with_reducible refine at_box ?_); refine ZP hst ?_) | ((with_reducible refine at_bslice ?_); refine ZS hst ?_)); clear hst; (first | ((fail_if_success have := b0); intro b0 w hb0 hst) | ((fail_if_success have := b1); intro b1 w hb1 hst) | ((fail_if_success have := b2); intro b2 w hb2 hst) | (intro b3 w hb3 hst)))))
  · rw [add_lit, Nat.zero_add]
    exact (HB.out.2.1.below hst.kp.below).cell (by rw [List.getElem?_append_left (List.getElem?_eq_some_iff.1 hv).1]; exact hv)
  · clear hst
    intro oid cap sp2 w hst hgr hno
    obtain ⟨g2, rfl⟩ : ∃ g2, oid = some g2 := by
      cases oid with
      | none => exact absurd rfl hno
      | some x => exact ⟨x, rfl⟩
    simp only [List.set_cons_succ, List.set_cons_zero, slV_eq, slP, Option.map, List.nil_append] at hst ⊢
    go_wp2_with ((first | ((with_reducible refine at_load ?_); first | refine X1 hst ?_ | refine XW hst ?_) | ((with_reducible refine at_store ?_); (first | refine Y1 hst ?_ | refine YW hst ?_); clear hst; intro w hst)))
    refine ret_tmp rfl rfl rfl ?_
    have e1 := HB.out.1
    subst e1
    have hle := hgr.le
    have h2 : w0.heap.size ≤ g2 := by
      rcases (hst.rows g2 _ 137 (by (repeat' (first | exact List.Mem.head _ | apply List.Mem.tail)); done)).2 with h5 | ⟨_, h5 | h5⟩
      · exact h5
      · cases h5
      · cases h5
    exact ⟨b2, b0, g2, cap, sp2, rfl, hb2, hb0, h2, hst.blk (by (repeat' (first | exact List.Mem.head _ | apply List.Mem.tail)); done), by omega, hst.blk (by (repeat' (first | exact List.Mem.head _ | apply List.Mem.tail)); done), hst.blk (by (repeat' (first | exact List.Mem.head _ | apply List.Mem.tail)); done), hst.kp.below⟩
end Go.Proofs.YtpajcfkldnbpfaaGreatDoor
