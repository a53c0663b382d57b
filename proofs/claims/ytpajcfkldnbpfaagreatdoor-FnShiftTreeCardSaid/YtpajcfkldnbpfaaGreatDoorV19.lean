/- SameNodes. Of one node: its type, its place, its name, its kids. alone: at leaves. -/
import Derived.Test.YtpajcfkldnbpfaaGreatDoorV18
import Derived.Test.YtpajcfkldnbpfaaGreatDoorV17
set_option linter.unusedSimpArgs false
set_option linter.unusedVariables false
namespace Go.Proofs.YtpajcfkldnbpfaaGreatDoor
open Go.RowKit
def Alike : List NH → List NH → Prop
  | [], [] => True
  | h :: a, h' :: b => (∃ va, h' = { h with value := va } ∧ (h.kind ≠ 5 → va = h.value)) ∧ Alike a b
  | _, _ => False
theorem Alike.length : ∀ {a b : List NH}, Alike a b → a.length = b.length
  | [], [], _ => rfl
  | _ :: _, _ :: _, h => by simp [Alike.length h.2]
  | [], _ :: _, h => h.elim
  | _ :: _, [], h => h.elim
theorem Alike.get : ∀ {a b : List NH} {i : Nat} {h : NH}, Alike a b → a[i]? = some h → ∃ va, b[i]? = some { h with value := va } ∧ (h.kind ≠ 5 → va = h.value)
  | x :: a, y :: b, 0, h, hab, e => by
    simp only [List.getElem?_cons_zero, Option.some.injEq] at e
    subst e
    obtain ⟨⟨va, h1, h2⟩, -⟩ := hab
    exact ⟨va, by rw [h1]; rfl, h2⟩
  | x :: a, y :: b, i + 1, h, hab, e => by
    simp only [List.getElem?_cons_succ] at e ⊢
    exact Alike.get hab.2 e
  | [], _, _, _, _, e => by simp at e
  | _ :: _, [], _, _, hab, _ => hab.elim
theorem Alike.snoc : ∀ {a b : List NH} {h : NH} {va : ByteArray}, Alike a b → (h.kind ≠ 5 → va = h.value) → Alike (a ++ [h]) (b ++ [{ h with value := va }])
  | [], [], h, va, _, hv => ⟨⟨va, rfl, hv⟩, trivial⟩
  | _ :: _, _ :: _, h, va, hab, hv => ⟨hab.1, Alike.snoc hab.2 hv⟩
  | [], _ :: _, _, _, h, _ => h.elim
  | _ :: _, [], _, _, h, _ => h.elim
theorem sameNode_any (h : NH) (va : ByteArray) (hv : h.kind ≠ 5 → va = h.value) (w0 : World) : Calls Tryz.prog 20 #[nval { h with value := va } (.slice none 0 0), nval h (.slice none 0 0)] w0 fun e w' => e = .returned (.bool true) ∧ Below w0.heap.size w0 w' := by
  by_cases h5 : h.kind = 5
  · obtain ⟨kd, ty, v, te, fl, co, of⟩ := h
    simp only at h5
    subst h5
    exact sameNode_5 ty co of va v te fl none none 0 0 0 0 w0
  · have e := hv h5
    subst e
    exact sameNode_eq h none none 0 0 0 0 w0 h5
def TrueR (w : World) (e : Ending) (w' : World) : Prop := e = .returned (.bool true) ∧ Below w.heap.size w w'
set_option maxRecDepth 100000 in
set_option maxHeartbeats 2000000 in
theorem sameNodes_any (a b : List NH) (hab : Alike b a) (ga gb ca cb : Nat) (sa sb : List Value) (w0 : World) (ha : Blk w0 ga 31 (cellsN a ++ sa)) (hb : Blk w0 gb 31 (cellsN b ++ sb)) (hl : a.length ≤ 1000) : Calls Tryz.prog 9 #[.slice (some ⟨ga, 0, none⟩) a.length ca, .slice (some ⟨gb, 0, none⟩) b.length cb] w0 (TrueR w0) := by
  have hlen := hab.length
  have HS := Lib.hid (And.intro ha (And.intro hb hab))
  clear ha hb hab
  rw [hlen]
  go_enter Tryz.func9, Tryz.ntmps9
  go_wp2
  go_loopw [13] (fun i wx => ∃ m : Nat, i = .int .i64 m ∧ m ≤ a.length ∧ Hid (St w0.heap.size ⟨[], []⟩ w0 wx [])) (fun i _ => a.length - (intOf i).toNat)
  case atStart => exact ⟨0, rfl, Nat.zero_le _, Lib.hid (St.nil w0.heap.size ⟨[], []⟩ w0 (Nat.le_refl _))⟩
  case round =>
    obtain ⟨m, rfl, hm, HL⟩ := hrel
    by_cases hm2 : (m : Int) < a.length
    · have hm3 : m < b.length := by omega
      obtain ⟨h, hg⟩ : ∃ h, b[m]? = some h := ⟨b[m], List.getElem?_eq_getElem hm3⟩
      obtain ⟨va, hg2, hv⟩ := HS.out.2.2.get hg
      have hca : ∀ (w : World), St w0.heap.size ⟨[], []⟩ w0 w [] → ∀ (j : Nat) (v : Value), ([.int .i64 ({ h with value := va } : NH).kind, .int .i64 ({ h with value := va } : NH).typ, .string ({ h with value := va } : NH).value, .string ({ h with value := va } : NH).text, .string ({ h with value := va } : NH).text, .string ByteArray.empty, .bool ({ h with value := va } : NH).flow, .bool false, .bool false, .int .i64 1, .int .i64 ({ h with value := va } : NH).col, .int .i64 ({ h with value := va } : NH).off, .int .i64 0, .int .i64 0, .slice none 0 0, .slice none 0 0, .slice none 0 0, .slice none 0 0, .slice none 0 0] : List Value)[j]? = some v → w.cell? ⟨ga, m * 19 + j, none⟩ = some v := fun w hS j v hv => by
        have h1 := cellsN_get hg2 hv
        exact (HS.out.1.below hS.kp.below).cell (by rw [List.getElem?_append_left (List.getElem?_eq_some_iff.1 h1).1]; exact h1)
      have hcb : ∀ (w : World), St w0.heap.size ⟨[], []⟩ w0 w [] → ∀ (j : Nat) (v : Value), ([.int .i64 h.kind, .int .i64 h.typ, .string h.value, .string h.text, .string h.text, .string ByteArray.empty, .bool h.flow, .bool false, .bool false, .int .i64 1, .int .i64 h.col, .int .i64 h.off, .int .i64 0, .int .i64 0, .slice none 0 0, .slice none 0 0, .slice none 0 0, .slice none 0 0, .slice none 0 0] : List Value)[j]? = some v → w.cell? ⟨gb, m * 19 + j, none⟩ = some v := fun w hS j v hv => by
        have h1 := cellsN_get hg hv
        exact (HS.out.2.1.below hS.kp.below).cell (by rw [List.getElem?_append_left (List.getElem?_eq_some_iff.1 h1).1]; exact h1)
      have HC := Lib.hid (And.intro hca (And.intro hcb hv))
      have hst := HL.out
      clear hca hcb hg hg2 hv
      go_upto_region 6 with fail
      refine wp_plan (fun w => St w0.heap.size ⟨[], []⟩ w0 w []) [0, 1, 2, 3, 4, 5, 6, 7, 9] (.q 0 (.q 1 (.q 2 (.q 3 (.q 4 (.q 5 (.q 6 (.q 7 (.e 8 true (.q 9 (.fin))))))))))) mixed (by kernel_rfl) (by kernel_rfl) (by kernel_rfl) (fun d v c a w h => by cases d <;> exact h) (hst.drew.sub (List.nil_sublist _)) ?_
      replace hst := hst.drew
      repeat ((refine AQ ?_); (refine QV ?_; go_frame))
      (refine AQ ?_)
      refine p_ldc (vs := [.int .i64 ({ h with value := va } : NH).kind, .int .i64 ({ h with value := va } : NH).typ, .string ({ h with value := va } : NH).value, .string ({ h with value := va } : NH).text, .string ({ h with value := va } : NH).text, .string ByteArray.empty, .bool ({ h with value := va } : NH).flow, .bool false, .bool false, .int .i64 1, .int .i64 ({ h with value := va } : NH).col, .int .i64 ({ h with value := va } : NH).off, .int .i64 0, .int .i64 0, .slice none 0 0, .slice none 0 0, .slice none 0 0, .slice none 0 0, .slice none 0 0]) HC.out.1 rfl rfl rfl (by exact agg_of rfl rfl) ?_
      go_frame
      repeat ((refine AQ ?_); (refine QV ?_; go_frame))
      (refine AQ ?_)
      refine p_ldc (vs := [.int .i64 h.kind, .int .i64 h.typ, .string h.value, .string h.text, .string h.text, .string ByteArray.empty, .bool h.flow, .bool false, .bool false, .int .i64 1, .int .i64 h.col, .int .i64 h.off, .int .i64 0, .int .i64 0, .slice none 0 0, .slice none 0 0, .slice none 0 0, .slice none 0 0, .slice none 0 0]) HC.out.2.1 rfl rfl rfl (by exact agg_of rfl rfl) ?_
      go_frame
      refine at_e (by simp only [List.getElem?_toArray, List.getElem?_cons_succ, List.getElem?_cons_zero]; rfl) rfl ?_
      refine e_call (by go_simp <;> first | rfl | exact ⟨⟨rfl, rfl⟩, rfl⟩ | exact ⟨⟨rfl, rfl⟩, rfl, rfl⟩ | exact ⟨rfl, rfl⟩) (sameNode_any h va HC.out.2.2 _) ?_
      rintro e w4 ⟨rfl, hb⟩
      replace hst := hst.below hb
      refine ⟨_, rfl, fun _ => hst, ?_⟩
      go_frame
      repeat ((refine AQ ?_); (refine QV ?_; go_frame))
      unfold wpP
      go_wp2_with fail
      go_round
      case rel => exact ⟨m + 1, by rw [show (m : Int) + 1 = ((m + 1 : Nat) : Int) by omega], by omega, Lib.hid hst⟩
      case measure => simp [intOf]; omega
    · go_wp2
      exact ret_tmp rfl rfl rfl ⟨rfl, HL.out.kp.below⟩
end Go.Proofs.YtpajcfkldnbpfaaGreatDoor
namespace Go.Proofs.YtpajcfkldnbpfaaGreatDoor
open Go.RowKit
def TypeR (kd : Int) (w : World) (e : Ending) (w' : World) : Prop := e = .returned (.int .i64 kd) ∧ w = w'
set_option maxHeartbeats 400000 in
theorem type2 (v : Value) (w : World) : Calls Tryz.prog 250 #[v] w (TypeR 2 w) := (by go_enter Tryz.func250, Tryz.ntmps250; go_wp2; exact ret_tmp rfl rfl rfl ⟨rfl, rfl⟩)
set_option maxHeartbeats 400000 in
theorem type3 (v : Value) (w : World) : Calls Tryz.prog 256 #[v] w (TypeR 3 w) := (by go_enter Tryz.func256, Tryz.ntmps256; go_wp2; exact ret_tmp rfl rfl rfl ⟨rfl, rfl⟩)
set_option maxHeartbeats 400000 in
theorem type4 (v : Value) (w : World) : Calls Tryz.prog 262 #[v] w (TypeR 4 w) := (by go_enter Tryz.func262, Tryz.ntmps262; go_wp2; exact ret_tmp rfl rfl rfl ⟨rfl, rfl⟩)
set_option maxHeartbeats 400000 in
theorem type5 (v : Value) (w : World) : Calls Tryz.prog 268 #[v] w (TypeR 5 w) := (by go_enter Tryz.func268, Tryz.ntmps268; go_wp2; exact ret_tmp rfl rfl rfl ⟨rfl, rfl⟩)
set_option maxHeartbeats 400000 in
theorem type6 (v : Value) (w : World) : Calls Tryz.prog 274 #[v] w (TypeR 6 w) := (by go_enter Tryz.func274, Tryz.ntmps274; go_wp2; exact ret_tmp rfl rfl rfl ⟨rfl, rfl⟩)
set_option maxHeartbeats 400000 in
theorem type7 (v : Value) (w : World) : Calls Tryz.prog 280 #[v] w (TypeR 7 w) := (by go_enter Tryz.func280, Tryz.ntmps280; go_wp2; exact ret_tmp rfl rfl rfl ⟨rfl, rfl⟩)
set_option maxHeartbeats 400000 in
theorem type8 (v : Value) (w : World) : Calls Tryz.prog 286 #[v] w (TypeR 8 w) := (by go_enter Tryz.func286, Tryz.ntmps286; go_wp2; exact ret_tmp rfl rfl rfl ⟨rfl, rfl⟩)
set_option maxHeartbeats 400000 in
theorem type10 (v : Value) (w : World) : Calls Tryz.prog 298 #[v] w (TypeR 10 w) := (by go_enter Tryz.func298, Tryz.ntmps298; go_wp2; exact ret_tmp rfl rfl rfl ⟨rfl, rfl⟩)
set_option maxHeartbeats 400000 in
theorem type11 (v : Value) (w : World) : Calls Tryz.prog 304 #[v] w (TypeR 11 w) := (by go_enter Tryz.func304, Tryz.ntmps304; go_wp2; exact ret_tmp rfl rfl rfl ⟨rfl, rfl⟩)
set_option maxHeartbeats 400000 in
theorem type13 (v : Value) (w : World) : Calls Tryz.prog 310 #[v] w (TypeR 13 w) := (by go_enter Tryz.func310, Tryz.ntmps310; go_wp2; exact ret_tmp rfl rfl rfl ⟨rfl, rfl⟩)
set_option maxHeartbeats 400000 in
theorem type14 (v : Value) (w : World) : Calls Tryz.prog 322 #[v] w (TypeR 14 w) := (by go_enter Tryz.func322, Tryz.ntmps322; go_wp2; exact ret_tmp rfl rfl rfl ⟨rfl, rfl⟩)
set_option maxHeartbeats 400000 in
theorem type16 (v : Value) (w : World) : Calls Tryz.prog 329 #[v] w (TypeR 16 w) := (by go_enter Tryz.func329, Tryz.ntmps329; go_wp2; exact ret_tmp rfl rfl rfl ⟨rfl, rfl⟩)
set_option maxHeartbeats 400000 in
theorem type17 (v : Value) (w : World) : Calls Tryz.prog 337 #[v] w (TypeR 17 w) := (by go_enter Tryz.func337, Tryz.ntmps337; go_wp2; exact ret_tmp rfl rfl rfl ⟨rfl, rfl⟩)
set_option maxHeartbeats 400000 in
theorem type19 (v : Value) (w : World) : Calls Tryz.prog 351 #[v] w (TypeR 19 w) := (by go_enter Tryz.func351, Tryz.ntmps351; go_wp2; exact ret_tmp rfl rfl rfl ⟨rfl, rfl⟩)
set_option maxHeartbeats 400000 in
theorem getPath_any (ba : Nat) (w : World) (hb : Blk w ba 235 [.string ByteArray.empty, .pointer none, .int .i64 0]) : Calls Tryz.prog 228 #[ptr ba] w fun e w' => e = .returned (.string ByteArray.empty) ∧ w = w' := by
  have c0 := hb.cell (off := 0) rfl
  go_enter Tryz.func228, Tryz.ntmps228
  go_wp2
  exact ret_tmp rfl rfl rfl ⟨rfl, rfl⟩
set_option maxHeartbeats 400000 in
theorem getComment_any (ba : Nat) (w : World) (hb : Blk w ba 235 [.string ByteArray.empty, .pointer none, .int .i64 0]) : Calls Tryz.prog 227 #[ptr ba] w fun e w' => e = .returned (.pointer none) ∧ w = w' := by
  have c1 := hb.cell (off := 1) rfl
  go_enter Tryz.func227, Tryz.ntmps227
  go_wp2
  exact ret_tmp rfl rfl rfl ⟨rfl, rfl⟩
set_option maxHeartbeats 400000 in
theorem getToken8 (c ba tk : Nat) (v : Value) (w : World) (hb : Blk w c 127 [ptr ba, ptr tk, v]) : Calls Tryz.prog 282 #[ptr c] w fun e w' => e = .returned (ptr tk) ∧ w = w' := by
  have c1 := hb.cell (off := 1) rfl
  go_enter Tryz.func282, Tryz.ntmps282
  go_wp2
  exact ret_tmp rfl rfl rfl ⟨rfl, rfl⟩
def NameR (s : ByteArray) (w : World) (e : Ending) (w' : World) : Prop := e = .returned (.string s) ∧ w = w'
set_option maxHeartbeats 400000 in
theorem name_any (cc : Int) (c ba tk pb : Nat) (v : Value) (h : NH) (w : World) (hb : Blk w c 127 [ptr ba, ptr tk, v]) (ht : TokAt w cc h tk pb) : Calls Tryz.prog 38 #[.iface 125 (ptr c)] w (NameR h.text w) := by
  have c3 := ht.1.cell (off := 3) rfl
  go_enter Tryz.func38, Tryz.ntmps38
  go_wp2_with fail
  refine (getToken8 c ba tk v _ hb).mono ?_
  rintro e w1 ⟨rfl, rfl⟩
  go_wp2_with fail
  refine (getToken8 c ba tk v _ hb).mono ?_
  rintro e w1 ⟨rfl, rfl⟩
  go_wp2_with fail
  exact ret_tmp rfl rfl rfl ⟨rfl, rfl⟩
def SomeR (vs : List Value) (w0 : World) (e : Ending) (w' : World) : Prop := ∃ (oid : Option Nat) (cap : Nat) (sp : List Value), e = .returned (.slice (slP oid) vs.length cap) ∧ Gr 1 oid vs.length cap vs sp ∧ St w0.heap.size ⟨[], []⟩ w0 w' [(oid, vs ++ sp, 55)]
set_option maxRecDepth 100000 in
set_option maxHeartbeats 1000000 in
theorem some_any (g c : Nat) (vs sp : List Value) (w0 : World) (hb : Blk w0 g 55 (vs ++ sp)) (hv : ∀ v ∈ vs, ∃ t x, v = .iface t x) (hl : vs.length ≤ 1000) : Calls Tryz.prog 35 #[.slice (some ⟨g, 0, none⟩) vs.length c] w0 (SomeR vs w0) := by
  have HS := Lib.hid (And.intro hb hv)
  clear hb hv
  go_enter Tryz.func35, Tryz.ntmps35
  go_wp2
  go_loopw [8, 3] (fun i o wx => ∃ (m : Nat) (oid : Option Nat) (cap : Nat) (sp : List Value), i = .int .i64 m ∧ m ≤ vs.length ∧ o = .slice (slP oid) m cap ∧ Hid (Gr 1 oid m cap (vs.take m) sp) ∧ Hid (St w0.heap.size ⟨[], []⟩ w0 wx [(oid, vs.take m ++ sp, 55)])) (fun i _ _ => vs.length - (intOf i).toNat)
  case atStart => exact ⟨0, none, 0, [], rfl, Nat.zero_le _, rfl, Lib.hid (Gr.empty 1), Lib.hid ((St.nil w0.heap.size ⟨[], []⟩ w0 (Nat.le_refl _)).addNone [] 55)⟩
  case round =>
    obtain ⟨m, oid, cap, sp', rfl, hm, rfl, HG, HL⟩ := hrel
    by_cases hm2 : (m : Int) < vs.length
    · have hm3 : m < vs.length := by omega
      obtain ⟨t, x, hx⟩ := HS.out.2 vs[m] (List.getElem_mem hm3)
      have hcell := (HS.out.1.below HL.out.kp.below).cell (off := m) (v := .iface t x) (by rw [List.getElem?_append_left hm3, List.getElem?_eq_getElem hm3, hx])
      have htk : vs.take (m + 1) = vs.take m ++ [.iface t x] := by rw [List.take_add_one, List.getElem?_eq_getElem hm3, hx]; rfl
      have HT := Lib.hid htk
      have hst := HL.out
      have hgr := HG.out
      clear hx hm3 htk
      go_wp2_with (first | (first | ((with_reducible refine at_bslice ?_); (refine ZS hst ?_; clear hst; (intro b0 w hb0 hst))) | ((with_reducible refine at_append ?_); (refine wl_appH hst rfl rfl rfl rfl (by first | exact el213 | exact el22 | exact el28 | exact el29 | exact el48 | exact el52 | exact el134 | exact el146 | exact el205) hgr (by decide) (by decide) rfl rfl (by omega) (by simp only [maxLen]; omega) ?_; clear hst hgr; intro oid cap sp w hst hgr hno))) | (first | ((with_reducible refine at_load ?_); first | refine X1 hst ?_ | refine XW hst ?_) | ((with_reducible refine at_store ?_); (first | refine Y1 hst ?_ | refine YW hst ?_); clear hst; intro w hst)))
      go_round
      case rel =>
        refine ⟨m + 1, oid, cap, sp, by rw [show (m : Int) + 1 = ((m + 1 : Nat) : Int) by omega], by omega, rfl, Lib.hid (by rw [HT.out]; exact hgr), Lib.hid (by rw [HT.out]; exact hst)⟩
      case measure => simp [intOf]; omega
    · have e : m = vs.length := by omega
      subst e
      go_wp2
      refine ret_tmp rfl rfl rfl ?_
      have h1 := HG.out
      have h2 := HL.out
      rw [List.take_length] at h1 h2
      exact ⟨oid, cap, sp', rfl, h1, h2⟩
def PlaceAt (c : Int) (h : NH) (w : World) (e : Ending) (w' : World) : Prop := e = .returned (.agg #[.int .i64 1, .int .i64 (h.col + c), .int .i64 h.off, .int .i64 0, .int .i64 0]) ∧ Below w.heap.size w w'
set_option maxRecDepth 100000 in
set_option maxHeartbeats 1000000 in
theorem placeA_any (c : Int) (tk pb : Nat) (h : NH) (w0 : World) (ht : TokAt w0 c h tk pb) : Calls Tryz.prog 40 #[ptr tk] w0 (PlaceAt c h w0) := by
  have hst := St.nil w0.heap.size ⟨[], []⟩ w0 (Nat.le_refl _)
  have HT := Lib.hid ht
  clear ht
  go_enter Tryz.func40, Tryz.ntmps40
  go_upto_region 1 with ((first | ((with_reducible refine at_load ?_); first | refine X1 hst ?_ | refine XW hst ?_) | ((with_reducible refine at_store ?_); (first | refine Y1 hst ?_ | refine YW hst ?_); clear hst; intro w hst) | ((first | ((with_reducible refine at_alloc ?_); refine ZP hst ?_) | ((with_reducible refine at_box ?_); refine ZP hst ?_) | ((with_reducible refine at_bslice ?_); refine ZS hst ?_)); clear hst; (first | ((fail_if_success have := b0); intro b0 w hb0 hst) | (intro b1 w hb1 hst)))))
  have hc6 := (HT.out.1.below hst.kp.below).cell (off := 6) rfl
  go_upto_region 4 with fail
  refine wp_plan (fun w => St w0.heap.size ⟨[], []⟩ w0 w [(some b0, [.int .i64 0, .int .i64 0, .int .i64 0, .int .i64 0, .int .i64 0], 27)]) [0, 1, 2, 3, 4, 5, 6, 7, 8, 9, 10, 11, 12, 13, 14, 15, 16, 17, 18, 19, 20] (.q 0 (.q 1 (.q 2 (.q 3 (.q 4 (.q 5 (.q 6 (.q 7 (.q 8 (.q 9 (.q 10 (.q 11 (.q 12 (.q 13 (.q 14 (.q 15 (.q 16 (.q 17 (.q 18 (.q 19 (.q 20 (.e 21 false (.fin))))))))))))))))))))))) mixed (by kernel_rfl) (by kernel_rfl) (by kernel_rfl) (fun d v c a w h => by cases d <;> exact h) hst.drew ?_
  replace hst := hst.drew
  repeat ((refine AQ ?_); first | (first | (refine p_ldc1 (q := ⟨pb, 0, none⟩) (fun w hS => (HT.out.2.below hS.kp.below).cell (off := 0) rfl) rfl rfl rfl (one_of (by decide +kernel)) ?_; go_frame) | (refine p_ldc1 (q := ⟨pb, 1, none⟩) (fun w hS => (HT.out.2.below hS.kp.below).cell (off := 1) rfl) rfl rfl rfl (one_of (by decide +kernel)) ?_; go_frame) | (refine p_ldc1 (q := ⟨pb, 2, none⟩) (fun w hS => (HT.out.2.below hS.kp.below).cell (off := 2) rfl) rfl rfl rfl (one_of (by decide +kernel)) ?_; go_frame) | (refine p_ldc1 (q := ⟨pb, 3, none⟩) (fun w hS => (HT.out.2.below hS.kp.below).cell (off := 3) rfl) rfl rfl rfl (one_of (by decide +kernel)) ?_; go_frame) | (refine p_ldc1 (q := ⟨pb, 4, none⟩) (fun w hS => (HT.out.2.below hS.kp.below).cell (off := 4) rfl) rfl rfl rfl (one_of (by decide +kernel)) ?_; go_frame)) | (refine QV ?_; go_frame))
  refine at_e (by simp only [List.getElem?_toArray, List.getElem?_cons_succ, List.getElem?_cons_zero]; rfl) rfl ?_
  (refine EW hst ?_; clear hst; intro w hst; refine ⟨?_, ?_⟩; rotate_left; go_frame)
  · unfold wpP
    go_wp2_with ((first | ((with_reducible refine at_load ?_); first | refine X1 hst ?_ | refine XW hst ?_) | ((with_reducible refine at_store ?_); (first | refine Y1 hst ?_ | refine YW hst ?_); clear hst; intro w hst)))
    exact ret_cell hst rfl rfl (by (repeat' (first | exact List.Mem.head _ | apply List.Mem.tail)); done) (by exact agg_of rfl rfl) rfl ⟨rfl, hst.kp.below⟩
  · intro h; exact absurd h (by decide)
end Go.Proofs.YtpajcfkldnbpfaaGreatDoor
namespace Go.Proofs.YtpajcfkldnbpfaaGreatDoor
open Go.RowKit
def promOf (P : Program) (t : Nat) (name : String) (S f : Nat) : Bool :=
  match P.info? t with
  | some i => (match i.methods.find? (·.name == name) with
    | some m => m.path.toList == [⟨S, 0, true⟩] && m.func == some (f, true) && (match P.underlying t with | some (.struct _) | some (.array _ _) | none => false | some _ => true) && (match P.underlying S with
      | some (.struct fs) => (match fs[0]? with
        | some x => x.offset == 0 && oneOf P x.type && szOf P x.type 1 && (match P.underlying x.type with | some (.pointer _) => true | _ => false)
        | none => false)
      | _ => false)
    | none => false)
  | none => false
theorem run_prom {P : Program} {w : World} {t n S f b : Nat} {x : Option Addr} {name : String} (h : promOf P t name S f = true) (hc : w.cell? ⟨b, 0, none⟩ = some (.pointer x)) : (method (n + 1) t (.pointer (some ⟨b, 0, none⟩)) name).run P w = .ok (f, .pointer x) w := by
  unfold promOf at h
  split at h
  · rename_i i hi
    split at h
    · rename_i m hm
      simp only [Bool.and_eq_true] at h
      obtain ⟨⟨⟨h1, h2⟩, h0⟩, h3⟩ := h
      split at h3
      · rename_i fs hS
        split at h3
        · rename_i y hy
          simp only [Bool.and_eq_true] at h3
          obtain ⟨⟨⟨h4, h5⟩, h6⟩, h7⟩ := h3
          split at h7
          · rename_i e he
            have hp : m.path.toList = [⟨S, 0, true⟩] := eq_of_beq h1
            have hf : m.func = some (f, true) := eq_of_beq h2
            have ho : y.offset = 0 := eq_of_beq h4
            have hl : (loadVar y.type ⟨b, 0, none⟩).run P w = .ok (.pointer x) w := run_load_one h5 hc
            have hs : (sizeOf y.type).run P w = .ok 1 w := run_sizeOf h6
            have ha : (⟨b, 0, none⟩ : Addr).add 0 = ⟨b, 0, none⟩ := by rw [add_lit]
            simp [method, typeInfo, hi, hm, hp, hf, follow, run_underlying hS, hy, Place.get, asAddr, fieldPlace, hs, ho, ha, receiverAt, run_underlying he, hl]
          · cases h7
        · cases h3
      · cases h3
    · cases h
  · cases h
theorem proms_all : ([(106, 108), (109, 111), (113, 115), (117, 119), (120, 122), (123, 124), (125, 127), (130, 132), (133, 136), (137, 144), (145, 149), (150, 152), (154, 155), (159, 161)].all fun x => promOf Tryz.prog x.1 "GetPath" x.2 228 && promOf Tryz.prog x.1 "GetComment" x.2 227) = true := by kernel_rfl
theorem prom_path {t S : Nat} (h : (t, S) ∈ [(106, 108), (109, 111), (113, 115), (117, 119), (120, 122), (123, 124), (125, 127), (130, 132), (133, 136), (137, 144), (145, 149), (150, 152), (154, 155), (159, 161)]) {w : World} {b ba : Nat} (hc : w.cell? ⟨b, 0, none⟩ = some (ptr ba)) : (method 465 t (ptr b) "GetPath").run Tryz.prog w = .ok (228, ptr ba) w := by
  have h1 := List.all_eq_true.1 proms_all _ h
  simp only [Bool.and_eq_true] at h1
  exact run_prom (n := 464) h1.1 hc
theorem prom_comment {t S : Nat} (h : (t, S) ∈ [(106, 108), (109, 111), (113, 115), (117, 119), (120, 122), (123, 124), (125, 127), (130, 132), (133, 136), (137, 144), (145, 149), (150, 152), (154, 155), (159, 161)]) {w : World} {b ba : Nat} (hc : w.cell? ⟨b, 0, none⟩ = some (ptr ba)) : (method 465 t (ptr b) "GetComment").run Tryz.prog w = .ok (227, ptr ba) w := by
  have h1 := List.all_eq_true.1 proms_all _ h
  simp only [Bool.and_eq_true] at h1
  exact run_prom (n := 464) h1.2 hc
section
variable {P : Program} {ops : Array Oper} {Q : Exit → Act → World → Prop} {B : Nat} {Ts : Ch} {w0 w : World} {L L1 : Rws} {a : Act} {p : Plan} {o : Oper} {S : World → Prop}
theorem p_part {k : Bool} (hst : St B Ts w0 w L) {T : Nat} {x y : Operand} {b off : Nat} {l vs l' : List Value} {t : Nat} {L' : Rws} (hop : o.op = .store T x y) (hx : a.eval x = .pointer (some ⟨b, off, none⟩)) (hy : a.eval y = .agg vs.toArray)
    (hu : Upd L b l t l' L') (hl' : l' = l.take off ++ vs ++ l.drop (off + vs.length)) (hs : szOf P T vs.length = true) (hl : off + vs.length ≤ l.length) (h1 : (vs.all Value.oneCell') = true) (h : ∀ w', St B Ts w0 w' L' → (k = true → S w') ∧ wpP P ops Q S p (a.put o.dst undef) w') : WE P ops Q S o k p a w := by
  obtain ⟨j, hi, rfl⟩ := hu.spec
  subst hl'
  obtain ⟨w', hr, h2⟩ := st_part hst hop hx hy hi hs hl h1
  obtain ⟨h3, h4⟩ := h w' h2
  exact e_skip hr h3 h4
theorem ret_ct {fn : Func} {R : Ending → World → Prop} (hst : St B Ts w0 w L) {p T b p2 : Nat} {l : List Value} {t : Nat} {v : Value} (hf : fn.results = #[.cell p T, .tmp p2]) (hp : a.tmps.getD p undef = .pointer (some ⟨b, 0, none⟩)) (hm : (some b, l, t) ∈ L) (hT : aggOf P T l.length = true)
    (hp2 : a.tmps.getD p2 undef = v) (hd : a.defers = []) (h : R (.returned (.tuple #[.agg l.toArray, v])) w) : bodyPost P fn R .ret a w := by
  refine bodyPost_ret (v := .tuple #[.agg l.toArray, v]) ?_ hd h
  have hl : (loadVar T ⟨b, 0, none⟩).run P w = .ok (.agg l.toArray) w := run_load_cells hT fun j v hv => by simpa [World.cell?, hst.heap hm] using hv
  have hp' : a.tmps[p]?.getD undef = .pointer (some ⟨b, 0, none⟩) := by simpa using hp
  have hp2' : a.tmps[p2]?.getD undef = v := by simpa using hp2
  simp [results, hf, hp', hp2', asAddr, hl]
end
def NH.at (h : NH) (va : ByteArray) (c : Int) : NH := { h with value := va, col := h.col + c }
def AloneR (c : Int) (h : NH) (k : F NH) (w : World) (e : Ending) (w' : World) : Prop := ∃ (va : ByteArray) (p : Option Addr) (cap lo hi : Nat) (kb : List Nat), e = .returned (.tuple #[nval (h.at va c) (.slice none 0 0), .slice p k.len cap]) ∧ (h.kind ≠ 5 → va = h.value) ∧ k.len ≤ cap ∧ SlV w' 55 p (ifs k kb) ∧ AstN w' c lo hi k kb ∧ Below w.heap.size w w'
set_option maxRecDepth 100000 in
set_option maxHeartbeats 2000000 in
theorem alone_2 (c : Int) (h : NH) (b ba tk pb : Nat) (w0 : World) (hk : h.kind = 2) (hv : h.value = ByteArray.empty) (hblk : Blk w0 b 108 [ptr ba, ptr tk]) (hba : Blk w0 ba 235 [.string ByteArray.empty, .pointer none, .int .i64 0]) (ht : TokAt w0 c h tk pb) (hf : h.flow = false) : Calls Tryz.prog 19 #[.iface 106 (ptr b)] w0 (AloneR c h .nil w0) := by
  have HB := Lib.hid (And.intro hblk (And.intro hba (And.intro ht hv)))
  clear hblk hba ht hv
  obtain ⟨kd, ty, va, te, fl, co, of⟩ := h
  simp only at hk hf
  subst hk hf
  ((have ta101 := fun v xT w => ta_miss (t := 106) 101 (by decide) (by decide) v xT w; have ta106 := fun v xT w => ta_hit 106 (by decide) v xT w); have hst := St.nil w0.heap.size ⟨[], []⟩ w0 (Nat.le_refl _); go_enter Tryz.func19, Tryz.ntmps19; go_wp2_with ((first | ((with_reducible refine at_load ?_); first | refine X1 hst ?_ | refine XW hst ?_) | ((with_reducible refine at_store ?_); (first | refine Y1 hst ?_ | refine YW hst ?_); clear hst; intro w hst) | ((first | ((with_reducible refine at_alloc ?_); refine ZP hst ?_) | ((with_reducible refine at_box ?_); refine ZP hst ?_) | ((with_reducible refine at_bslice ?_); refine ZS hst ?_)); clear hst; (intro b0 w hb0 hst)))); refine (type2 _ _).mono ?_; rintro e w1 ⟨rfl, rfl⟩; have hc0 := (HB.out.1.below hst.kp.below).cell (off := 0) rfl; have hp1 := prom_path (t := 106) (S := 108) (by decide) hc0; have hp2 := prom_comment (t := 106) (S := 108) (by decide) hc0; go_wp2_with ((first | ((with_reducible refine at_load ?_); first | refine X1 hst ?_ | refine XW hst ?_) | ((with_reducible refine at_store ?_); (first | refine Y1 hst ?_ | refine YW hst ?_); clear hst; intro w hst) | ((first | ((with_reducible refine at_alloc ?_); refine ZP hst ?_) | ((with_reducible refine at_box ?_); refine ZP hst ?_) | ((with_reducible refine at_bslice ?_); refine ZS hst ?_)); clear hst; (intro b0 w hb0 hst)))); (refine (getPath_any ba _ (HB.out.2.1.below hst.kp.below)).mono ?_; rintro e w1 ⟨rfl, rfl⟩); go_wp2_with ((first | ((with_reducible refine at_load ?_); first | refine X1 hst ?_ | refine XW hst ?_) | ((with_reducible refine at_store ?_); (first | refine Y1 hst ?_ | refine YW hst ?_); clear hst; intro w hst) | ((first | ((with_reducible refine at_alloc ?_); refine ZP hst ?_) | ((with_reducible refine at_box ?_); refine ZP hst ?_) | ((with_reducible refine at_bslice ?_); refine ZS hst ?_)); clear hst; (intro b0 w hb0 hst)))); (refine (getComment_any ba _ (HB.out.2.1.below hst.kp.below)).mono ?_; rintro e w1 ⟨rfl, rfl⟩); go_wp2_with ((first | ((with_reducible refine at_load ?_); first | refine X1 hst ?_ | refine XW hst ?_) | ((with_reducible refine at_store ?_); (first | refine Y1 hst ?_ | refine YW hst ?_); clear hst; intro w hst) | ((first | ((with_reducible refine at_alloc ?_); refine ZP hst ?_) | ((with_reducible refine at_box ?_); refine ZP hst ?_) | ((with_reducible refine at_bslice ?_); refine ZS hst ?_)); clear hst; (intro b0 w hb0 hst)))); (refine (told_nil _).mono ?_; rintro e w1 ⟨rfl, rfl⟩); clear hc0 hp1 hp2)
  go_upto_region 77 with (first | ((with_reducible refine at_load ?_); refine wl_ldc1 rfl rfl rfl ((HB.out.1.below hst.kp.below).cell (off := 1) rfl) (one_of (by decide +kernel)) ?_) | (first | ((with_reducible refine at_load ?_); first | refine X1 hst ?_ | refine XW hst ?_) | ((with_reducible refine at_store ?_); (first | refine Y1 hst ?_ | refine YW hst ?_); clear hst; intro w hst) | ((first | ((with_reducible refine at_alloc ?_); refine ZP hst ?_) | ((with_reducible refine at_box ?_); refine ZP hst ?_) | ((with_reducible refine at_bslice ?_); refine ZS hst ?_)); clear hst; (intro b0 w hb0 hst))))
  refine wp_plan (fun w => St w0.heap.size ⟨[], []⟩ w0 w []) [0, 1, 2, 3, 4, 5, 6, 7, 8, 9, 10, 11, 12, 14, 16, 18, 20] (.q 0 (.q 1 (.q 2 (.q 3 (.q 4 (.q 5 (.q 6 (.q 7 (.q 8 (.q 9 (.q 10 (.q 11 (.q 12 (.q 14 (.e 13 true (.e 15 true (.q 16 (.e 17 true (.q 18 (.e 19 true (.q 20 (.e 21 false (.fin))))))))))))))))))))))) mixed (by kernel_rfl) (by kernel_rfl) (by kernel_rfl) (fun d v c a w h => by cases d <;> exact h) (hst.drew.sub (List.nil_sublist _)) ?_
  replace hst := hst.drew
  repeat ((refine AQ ?_); first | (first | (refine p_ldc1 (q := ⟨tk, 0, none⟩) (fun w hS => (HB.out.2.2.1.1.below hS.kp.below).cell (off := 0) rfl) rfl rfl rfl (one_of (by decide +kernel)) ?_; go_frame) | (refine p_ldc1 (q := ⟨tk, 3, none⟩) (fun w hS => (HB.out.2.2.1.1.below hS.kp.below).cell (off := 3) rfl) rfl rfl rfl (one_of (by decide +kernel)) ?_; go_frame) | (refine p_ldc1 (q := ⟨tk, 4, none⟩) (fun w hS => (HB.out.2.2.1.1.below hS.kp.below).cell (off := 4) rfl) rfl rfl rfl (one_of (by decide +kernel)) ?_; go_frame)) | (refine QV ?_; go_frame))
  refine at_e (by simp only [List.getElem?_toArray, List.getElem?_cons_succ, List.getElem?_cons_zero]; rfl) rfl ?_
  refine e_call (by go_simp <;> first | rfl | exact ⟨rfl, rfl⟩) (placeA_any c tk pb _ _ (HB.out.2.2.1.below hst.kp.below)) ?_
  rintro e w4 ⟨rfl, hb⟩
  replace hst := hst.below hb
  refine ⟨_, rfl, fun _ => hst.sub (List.nil_sublist _), ?_⟩
  go_frame
  (refine at_e (by simp only [List.getElem?_toArray, List.getElem?_cons_succ, List.getElem?_cons_zero]; rfl) rfl ?_; refine E1 hst ?_; clear hst; intro w hst; refine ⟨fun _ => hst.sub (List.nil_sublist _), ?_⟩; go_frame)
  repeat ((refine AQ ?_); (refine QV ?_; go_frame))
  (refine at_e (by simp only [List.getElem?_toArray, List.getElem?_cons_succ, List.getElem?_cons_zero]; rfl) rfl ?_; refine E1 hst ?_; clear hst; intro w hst; refine ⟨fun _ => hst.sub (List.nil_sublist _), ?_⟩; go_frame)
  repeat ((refine AQ ?_); (refine QV ?_; go_frame))
  (refine at_e (by simp only [List.getElem?_toArray, List.getElem?_cons_succ, List.getElem?_cons_zero]; rfl) rfl ?_; refine E1 hst ?_; clear hst; intro w hst; refine ⟨fun _ => hst.sub (List.nil_sublist _), ?_⟩; go_frame)
  repeat ((refine AQ ?_); (refine QV ?_; go_frame))
  refine at_e (by simp only [List.getElem?_toArray, List.getElem?_cons_succ, List.getElem?_cons_zero]; rfl) rfl ?_
  refine p_part hst (off := 9) (vs := [.int .i64 1, .int .i64 (co + c), .int .i64 of, .int .i64 0, .int .i64 0]) (by exact rfl) (by exact rfl) (by exact rfl) (.head (l' := [.int .i64 2, .int .i64 ty, .string ByteArray.empty, .string te, .string te, .string ByteArray.empty, .bool false, .bool false, .bool false, .int .i64 1, .int .i64 (co + c), .int .i64 of, .int .i64 0, .int .i64 0, .slice none 0 0, .slice none 0 0, .slice none 0 0, .slice none 0 0, .slice none 0 0])) rfl (by exact szn_of rfl rfl) (Nat.le_of_ble_eq_true rfl) rfl ?_
  clear hst
  intro w hst
  refine ⟨fun h => by first | exact absurd h (by decide) | exact hst.sub (List.nil_sublist _), ?_⟩
  go_frame
  unfold wpP
  go_wp2_with ((first | ((with_reducible refine at_load ?_); first | refine X1 hst ?_ | refine XW hst ?_) | ((with_reducible refine at_store ?_); (first | refine Y1 hst ?_ | refine YW hst ?_); clear hst; intro w hst)))
  refine ret_ct hst rfl rfl (by (repeat' (first | exact List.Mem.head _ | apply List.Mem.tail)); done) (by exact agg_of rfl rfl) rfl rfl ?_
  exact ⟨ByteArray.empty, none, 0, 0, 0, [], rfl, fun _ => HB.out.2.2.2.symm, Nat.le_refl _, .inl rfl, ⟨rfl, Nat.le_refl _⟩, hst.kp.below⟩
end Go.Proofs.YtpajcfkldnbpfaaGreatDoor
