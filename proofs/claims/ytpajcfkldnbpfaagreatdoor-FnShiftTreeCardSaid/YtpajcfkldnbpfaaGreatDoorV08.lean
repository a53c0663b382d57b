/- The fitter's collections. -/
import Derived.Test.YtpajcfkldnbpfaaGreatDoorV05
import Derived.Test.YtpajcfkldnbpfaaGreatDoorV07
set_option linter.unusedSimpArgs false
set_option linter.unusedVariables false
namespace Go.Proofs.YtpajcfkldnbpfaaGreatDoor
open Go.RowKit
theorem NodeOK.styled {h : TH} {k : F TH} (hn : NodeOK h k) {st : Int} (hs : st = h.st ∨ st = 2) : NodeOK ⟨h.kind, h.v, h.a, h.t, st⟩ k := by
  rcases hs with rfl | rfl
  · exact hn
  · obtain ⟨h1, h2, h3, h4⟩ := hn
    refine ⟨h1, h2, h3, ?_⟩
    rcases h4 with h4 | h4
    · exact .inl ⟨h4.1, h4.2.1, (by decide : (1 : Int) ≤ 2), (by decide : (2 : Int) ≤ 5), h3, fun h => absurd h (by decide : ¬ (2 : Int) = 1)⟩
    · exact .inr h4
theorem Kd.sl {B : Nat} {w0 w : World} {L : Rws} {oid : Option Nat} {n cap : Nat} {xs sp : List Value} {bs : List Nat} {fo : F TH} (hst : St B [65, 9] w0 w L) (hm : (oid, xs ++ sp, 24) ∈ L) (hgr : Gr 6 oid n cap xs sp) (hl : fo.len = n) (h : Row TS (Kd w0.heap.size bs oid) w (xs ++ sp) fo) : Sl TS (New w0.heap.size) w (slP oid) fo := by
  cases oid with
  | none => exact .inl (by have := hgr.nil rfl; have := hgr.le; omega)
  | some g => exact .inr ⟨g, 0, _, _, _, rfl, hst.heap hm, ⟨(hst.lo (bs := []) (oid := some g) hm (by simp)) g (by simp), rfl⟩, Row.hold (A := Kd w0.heap.size bs (some g)) (fun b cs t fr ha hb => ⟨hb, ha.1, ha.2.1⟩) (by simpa using h)⟩
theorem KeyOK.node {h : TH} (hk : KeyOK h .nil) : NodeOK h .nil := ⟨by rw [hk.2.2.1]; decide, by rw [hk.2.2.2]; decide, hk.1.2.2.2.2.1, .inl hk.1⟩
def GoOn (k : F TH) (m : Nat) (stp left' : Int) (b : Bool) : Prop := b = true → (m : Int) + stp ≤ k.len ∧ m < 6 ∧ stp ≤ left'
structure CInv (M : Int) (w0 wx : World) (bs : List Nat) (kd left : Int) (m : Nat) (fo : F TH) (oid2 : Option Nat) (cap2 : Nat) (xs2 sp2 : List Value) (left' : Int) (oid' : Option Nat) (n' cap' : Nat) (xs' sp' : List Value) : Prop where
  len : fo.len = m
  le : m ≤ 7
  gr : Gr 6 oid2 m cap2 xs2 sp2
  row : Row TS (Kd w0.heap.size bs oid2) wx (xs2 ++ sp2) fo
  all : fo.all NodeOK
  pairs : kd = 3 → PairsOK fo
  left0 : 0 ≤ left'
  size : (fo.size : Int) ≤ left - left'
  gr1 : Gr 1 oid' n' cap' xs' sp'
  strs : ∀ v ∈ xs', ∃ s : ByteArray, v = .string s ∧ s.size ≤ 8
  most : (n' : Int) + left' ≤ M
set_option maxRecDepth 100000 in
set_option maxHeartbeats 2000000 in
theorem coll_step (k : F TH) (hT : ∀ h' k', k'.size < k.size → TreeC h' k') : CollC k := by
  intro M B fb left oid n cap xs sp level flow p c w0 h kd a tg hF hl hl2 hv1 hv2 hi hk hc hs hkd
  unfold tval
  have hst := hF.st
  have HA := Lib.hid (And.intro hF (And.intro hi (And.intro hk (And.intro hs hT))))
  clear hF hi hk hs hT
  have hm1 : 0 ≤ h.st % 2 ∧ h.st % 2 < 2 := by omega
  have hm2 : 0 ≤ (h.st % 2 - 1) % 2 ∧ (h.st % 2 - 1) % 2 < 2 := by omega
  go_enter Tryz.func47, Tryz.ntmps47
  go_wp2_with ((first | ((with_reducible refine at_load ?_); first | refine X1 hst ?_ | refine XW hst ?_) | ((with_reducible refine at_store ?_); (first | refine Y1 hst ?_ | refine YW hst ?_); clear hst; intro w hst) | ((first | ((with_reducible refine at_alloc ?_); refine ZP hst ?_) | ((with_reducible refine at_box ?_); refine ZP hst ?_) | ((with_reducible refine at_bslice ?_); refine ZS hst ?_)); clear hst; (first | ((fail_if_success have := b0); intro b0 w hb0 hst) | ((fail_if_success have := b1); intro b1 w hb1 hst) | ((fail_if_success have := b2); intro b2 w hb2 hst) | ((fail_if_success have := b3); intro b3 w hb3 hst) | ((fail_if_success have := b4); intro b4 w hb4 hst) | (intro b5 w hb5 hst)))))
  refine (modulo_any _ _ _ (by decide) (by decide)).mono ?_
  rintro e w' ⟨rfl, rfl⟩
  go_wp2_with ((first | ((with_reducible refine at_load ?_); first | refine X1 hst ?_ | refine XW hst ?_) | ((with_reducible refine at_store ?_); (first | refine Y1 hst ?_ | refine YW hst ?_); clear hst; intro w hst) | ((first | ((with_reducible refine at_alloc ?_); refine ZP hst ?_) | ((with_reducible refine at_box ?_); refine ZP hst ?_) | ((with_reducible refine at_bslice ?_); refine ZS hst ?_)); clear hst; (first | ((fail_if_success have := b0); intro b0 w hb0 hst) | ((fail_if_success have := b1); intro b1 w hb1 hst) | ((fail_if_success have := b2); intro b2 w hb2 hst) | ((fail_if_success have := b3); intro b3 w hb3 hst) | ((fail_if_success have := b4); intro b4 w hb4 hst) | (intro b5 w hb5 hst)))))
  refine (modulo_any _ _ _ (by decide) (by decide)).mono ?_
  rintro e w' ⟨rfl, rfl⟩
  go_upto_if 22 with ((first | ((with_reducible refine at_load ?_); first | refine X1 hst ?_ | refine XW hst ?_) | ((with_reducible refine at_store ?_); (first | refine Y1 hst ?_ | refine YW hst ?_); clear hst; intro w hst) | ((first | ((with_reducible refine at_alloc ?_); refine ZP hst ?_) | ((with_reducible refine at_box ?_); refine ZP hst ?_) | ((with_reducible refine at_bslice ?_); refine ZS hst ?_)); clear hst; (first | ((fail_if_success have := b0); intro b0 w hb0 hst) | ((fail_if_success have := b1); intro b1 w hb1 hst) | ((fail_if_success have := b2); intro b2 w hb2 hst) | ((fail_if_success have := b3); intro b3 w hb3 hst) | ((fail_if_success have := b4); intro b4 w hb4 hst) | (intro b5 w hb5 hst)))))
  go_cut [0] (fun y wx => y = .pointer (some ⟨fb, 0, none⟩) ∧ ∃ st2 : Int, Hid (st2 = 1 ∨ st2 = 2) ∧ St B [65, 9] w0 wx [(some b2, [.int .i64 0, .string ByteArray.empty, .string ByteArray.empty, .string ByteArray.empty, .int .i64 0, .slice none 0 0], 24), (some b1, [.int .i64 h.kind, .string h.v, .string h.a, .string h.t, .int .i64 h.st, .slice p k.len c], 24), (some b0, [.int .i64 kd, .string ByteArray.empty, .string a, .string tg, .int .i64 st2, .slice none 0 0], 24), (some fb, [.int .i64 63, .int .i64 left, .slice (slP oid) n cap], 65), (oid, xs ++ sp, 9)])
  case first =>
    cases flow
    · go_wp2_with ((first | ((with_reducible refine at_load ?_); first | refine X1 hst ?_ | refine XW hst ?_) | ((with_reducible refine at_store ?_); (first | refine Y1 hst ?_ | refine YW hst ?_); clear hst; intro w hst) | ((first | ((with_reducible refine at_alloc ?_); refine ZP hst ?_) | ((with_reducible refine at_box ?_); refine ZP hst ?_) | ((with_reducible refine at_bslice ?_); refine ZS hst ?_)); clear hst; (first | ((fail_if_success have := b0); intro b0 w hb0 hst) | ((fail_if_success have := b1); intro b1 w hb1 hst) | ((fail_if_success have := b2); intro b2 w hb2 hst) | ((fail_if_success have := b3); intro b3 w hb3 hst) | ((fail_if_success have := b4); intro b4 w hb4 hst) | (intro b5 w hb5 hst)))))
      go_meet
      case rel => exact ⟨rfl, _, Lib.hid (by omega), hst⟩
    · go_wp2_with ((first | ((with_reducible refine at_load ?_); first | refine X1 hst ?_ | refine XW hst ?_) | ((with_reducible refine at_store ?_); (first | refine Y1 hst ?_ | refine YW hst ?_); clear hst; intro w hst) | ((first | ((with_reducible refine at_alloc ?_); refine ZP hst ?_) | ((with_reducible refine at_box ?_); refine ZP hst ?_) | ((with_reducible refine at_bslice ?_); refine ZS hst ?_)); clear hst; (first | ((fail_if_success have := b0); intro b0 w hb0 hst) | ((fail_if_success have := b1); intro b1 w hb1 hst) | ((fail_if_success have := b2); intro b2 w hb2 hst) | ((fail_if_success have := b3); intro b3 w hb3 hst) | ((fail_if_success have := b4); intro b4 w hb4 hst) | (intro b5 w hb5 hst)))))
      go_meet
      case rel => exact ⟨rfl, 2, Lib.hid (by decide), hst⟩
  case rest =>
  clear hst hm1 hm2
  obtain ⟨rfl, st2, hs2, hst⟩ := hcut
  go_wp2_with ((first | ((with_reducible refine at_load ?_); first | refine X1 hst ?_ | refine XW hst ?_) | ((with_reducible refine at_store ?_); (first | refine Y1 hst ?_ | refine YW hst ?_); clear hst; intro w hst) | ((first | ((with_reducible refine at_alloc ?_); refine ZP hst ?_) | ((with_reducible refine at_box ?_); refine ZP hst ?_) | ((with_reducible refine at_bslice ?_); refine ZS hst ?_)); clear hst; (first | ((fail_if_success have := b0); intro b0 w hb0 hst) | ((fail_if_success have := b1); intro b1 w hb1 hst) | ((fail_if_success have := b2); intro b2 w hb2 hst) | ((fail_if_success have := b3); intro b3 w hb3 hst) | ((fail_if_success have := b4); intro b4 w hb4 hst) | (intro b5 w hb5 hst)))))
  generalize hstp : kd - 1 = stp
  have hstp2 : 1 ≤ stp ∧ stp ≤ 2 := by omega
  go_loopw [12] (fun i wx => ∃ m : Nat, i = .int .i64 m ∧ ∃ (fo : F TH) (oid2 : Option Nat) (cap2 : Nat) (xs2 sp2 : List Value) (left' : Int) (oid' : Option Nat) (n' cap' : Nat) (xs' sp' : List Value), Hid (CInv M w0 wx [b2, b1, b0] kd left m fo oid2 cap2 xs2 sp2 left' oid' n' cap' xs' sp') ∧ Hid (St B [65, 9] w0 wx [(some b2, [.int .i64 0, .string ByteArray.empty, .string ByteArray.empty, .string ByteArray.empty, .int .i64 0, .slice none 0 0], 24), (some b1, [.int .i64 h.kind, .string h.v, .string h.a, .string h.t, .int .i64 h.st, .slice p k.len c], 24), (some b0, [.int .i64 kd, .string ByteArray.empty, .string a, .string tg, .int .i64 st2, .slice (slP oid2) m cap2], 24), (oid2, xs2 ++ sp2, 24), (some fb, [.int .i64 63, .int .i64 left', .slice (slP oid') n' cap'], 65), (oid', xs' ++ sp', 9)])) (fun i _ => 8 - (intOf i).toNat)
  case atStart => exact ⟨0, rfl, .nil, none, 0, [], [], left, oid, n, cap, xs, sp, Lib.hid ⟨rfl, by omega, Gr.empty 6, trivial, trivial, fun _ => trivial, hl, by simp [F.size], HA.out.1.gr, HA.out.1.strs, HA.out.1.most⟩, Lib.hid (by
      have h1 := (hst.addNone [] 24).perm ((List.perm_append_comm (l₁ := [_]) (l₂ := [_, _, _])).append_right [_, _])
      exact h1)⟩
  case round =>
    clear hst
    obtain ⟨m, rfl, fo, oid2, cap2, xs2, sp2, left', oid', n', cap', xs', sp', HI, HS⟩ := hrel
    have hst := HS.out
    clear HS
    have hm7 := HI.out.le
    have hkl : (k.len : Int) ≤ 140737488355328 := by have := HA.out.2.2.1.1; omega
    have HKL := Lib.hid hkl
    clear hkl
    have hlr : left' ≤ 30 := by have := HI.out.size; have := HI.out.left0; omega
    go_upto_region 6 with fail
    go_cut [45] (fun y wx => wr = wx ∧ ∃ b : Bool, y = .bool b ∧ GoOn k m stp left' b)
    case first =>
      have f1 := hst.cell (b := fb) (off := 1) (by (repeat' (first | exact List.Mem.head _ | apply List.Mem.tail)); done) rfl
      have hkd2 : 2 ≤ kd ∧ kd ≤ 3 := by omega
      by_cases h1 : (m : Int) + stp ≤ k.len
      · by_cases h2 : (m : Int) < 6
        · by_cases h3 : stp ≤ left'
          · go_wp2_with ((first | ((with_reducible refine at_load ?_); first | refine X1 hst ?_ | refine XW hst ?_) | ((with_reducible refine at_store ?_); (first | refine Y1 hst ?_ | refine YW hst ?_); clear hst; intro w hst) | ((first | ((with_reducible refine at_alloc ?_); refine ZP hst ?_) | ((with_reducible refine at_box ?_); refine ZP hst ?_) | ((with_reducible refine at_bslice ?_); refine ZS hst ?_)); clear hst; (first | ((fail_if_success have := b0); intro b0 w hb0 hst) | ((fail_if_success have := b1); intro b1 w hb1 hst) | ((fail_if_success have := b2); intro b2 w hb2 hst) | ((fail_if_success have := b3); intro b3 w hb3 hst) | ((fail_if_success have := b4); intro b4 w hb4 hst) | (intro b5 w hb5 hst)))))
            go_meet
            case rel => exact ⟨rfl, _, rfl, fun _ => ⟨h1, by omega, h3⟩⟩
          · go_wp2_with ((first | ((with_reducible refine at_load ?_); first | refine X1 hst ?_ | refine XW hst ?_) | ((with_reducible refine at_store ?_); (first | refine Y1 hst ?_ | refine YW hst ?_); clear hst; intro w hst) | ((first | ((with_reducible refine at_alloc ?_); refine ZP hst ?_) | ((with_reducible refine at_box ?_); refine ZP hst ?_) | ((with_reducible refine at_bslice ?_); refine ZS hst ?_)); clear hst; (first | ((fail_if_success have := b0); intro b0 w hb0 hst) | ((fail_if_success have := b1); intro b1 w hb1 hst) | ((fail_if_success have := b2); intro b2 w hb2 hst) | ((fail_if_success have := b3); intro b3 w hb3 hst) | ((fail_if_success have := b4); intro b4 w hb4 hst) | (intro b5 w hb5 hst)))))
            go_meet
            case rel => exact ⟨rfl, _, rfl, fun h => by simp at h⟩
        · go_wp2_with ((first | ((with_reducible refine at_load ?_); first | refine X1 hst ?_ | refine XW hst ?_) | ((with_reducible refine at_store ?_); (first | refine Y1 hst ?_ | refine YW hst ?_); clear hst; intro w hst) | ((first | ((with_reducible refine at_alloc ?_); refine ZP hst ?_) | ((with_reducible refine at_box ?_); refine ZP hst ?_) | ((with_reducible refine at_bslice ?_); refine ZS hst ?_)); clear hst; (first | ((fail_if_success have := b0); intro b0 w hb0 hst) | ((fail_if_success have := b1); intro b1 w hb1 hst) | ((fail_if_success have := b2); intro b2 w hb2 hst) | ((fail_if_success have := b3); intro b3 w hb3 hst) | ((fail_if_success have := b4); intro b4 w hb4 hst) | (intro b5 w hb5 hst)))))
          go_meet
          case rel => exact ⟨rfl, _, rfl, fun h => by simp at h⟩
      · go_wp2_with ((first | ((with_reducible refine at_load ?_); first | refine X1 hst ?_ | refine XW hst ?_) | ((with_reducible refine at_store ?_); (first | refine Y1 hst ?_ | refine YW hst ?_); clear hst; intro w hst) | ((first | ((with_reducible refine at_alloc ?_); refine ZP hst ?_) | ((with_reducible refine at_box ?_); refine ZP hst ?_) | ((with_reducible refine at_bslice ?_); refine ZS hst ?_)); clear hst; (first | ((fail_if_success have := b0); intro b0 w hb0 hst) | ((fail_if_success have := b1); intro b1 w hb1 hst) | ((fail_if_success have := b2); intro b2 w hb2 hst) | ((fail_if_success have := b3); intro b3 w hb3 hst) | ((fail_if_success have := b4); intro b4 w hb4 hst) | (intro b5 w hb5 hst)))))
        go_meet
        case rel => exact ⟨rfl, _, rfl, fun h => by simp at h⟩
    case rest =>
    obtain ⟨rfl, b, rfl, HG⟩ := hcut
    cases b
    · have hwa := St.watchP (L1 := [_, _, _, _]) (L2 := [_, _]) hst (bs := [b2, b1, b0] ++ oid2.toList) (by cases oid2 <;> rfl) rfl
      simp only [List.cons_append, List.nil_append] at hwa
      have HST := Lib.hid hst
      clear hst
      have hst := hwa
      clear hwa
      have fin : ∀ (w : World) (st3 : Int) (tg3 : ByteArray), (tg3 = tg ∨ tg3 = ByteArray.empty) → St B ⟨[65, 9], [b2, b1, b0] ++ oid2.toList⟩ wr w [(some b2, [.int .i64 kd, .string ByteArray.empty, .string a, .string tg3, .int .i64 st3, .slice (slP oid2) m cap2], 24), (some b1, [.int .i64 h.kind, .string h.v, .string h.a, .string h.t, .int .i64 h.st, .slice p k.len c], 24), (some b0, [.int .i64 kd, .string ByteArray.empty, .string a, .string tg3, .int .i64 st3, .slice (slP oid2) m cap2], 24), (oid2, xs2 ++ sp2, 24), (some fb, [.int .i64 63, .int .i64 left', .slice (slP oid') n' cap'], 65), (oid', xs' ++ sp', 9)] → CollR kd a tg M B fb left w0 (.returned (.agg #[.int .i64 kd, .string ByteArray.empty, .string a, .string tg3, .int .i64 st3, .slice (slP oid2) m cap2])) w := by
        intro w st3 tg3 htg hst
        obtain ⟨hlen, hle, hgr, hrow, hall, hpk, hl0, hsz, hg1, hstr, hmo⟩ := HI.out
        subst hlen
        have hb : ∀ b ∈ [b2, b1, b0] ++ oid2.toList, w0.heap.size ≤ b := by
          intro b hb
          rcases List.mem_append.1 hb with hb | hb
          · simp only [List.mem_cons, List.not_mem_nil, or_false] at hb
            omega
          · have e : oid2 = some b := by simpa using hb
            subst e
            rcases (HST.out.rows b _ 24 (by (repeat' (first | exact List.Mem.head _ | apply List.Mem.tail)); done)).2 with h5 | ⟨_, h5 | h5⟩
            · exact h5
            · exact absurd h5 (by decide : ¬ 24 ∈ [65, 9])
            · cases h5
        have hH := Kd.hold (lo := w0.heap.size) (lo' := w0.heap.size) (bs := [b2, b1, b0]) (oid := oid2) (oid3 := oid2) hst (by (repeat' (first | exact List.Mem.head _ | apply List.Mem.tail)); done) (fun b hb => by
          rcases List.mem_append.1 hb with hb | hb
          · exact .inl hb
          · exact .inr (by simpa using hb)) (Nat.le_refl _)
        have hun := St.unwatch HST.out hst hb
        refine ⟨st3, tg3, fo, slP oid2, cap2, left', oid', n', cap', xs', sp', rfl, ?_, hgr.le, hpk, hall, htg, hl0, hsz, ⟨hun.sub (.cons _ (.cons _ (.cons _ (.cons _ (List.Sublist.refl _))))), hg1, hstr, hmo, HA.out.1.mle⟩⟩
        cases oid2 with
        | none => exact .inl (by have := hgr.nil rfl; have := hgr.le; omega)
        | some g =>
          refine .inr ⟨g, 0, _, _, _, rfl, hun.heap (by (repeat' (first | exact List.Mem.head _ | apply List.Mem.tail)); done), ⟨hb g (by simp), rfl⟩, ?_⟩
          refine Row.hold (A := Kd w0.heap.size [b2, b1, b0] (some g)) (fun b cs t fr ha hb => ⟨hb, ha.1, ha.2.1⟩) ?_
          simpa using hrow.hold hH
      have FIN := Lib.hid fin
      clear fin
      by_cases hm0 : m = 0
      · subst hm0
        go_wp2_with ((first | ((with_reducible refine at_load ?_); first | refine X1 hst ?_ | refine XW hst ?_) | ((with_reducible refine at_store ?_); (first | refine Y1 hst ?_ | refine YW hst ?_); clear hst; intro w hst) | ((first | ((with_reducible refine at_alloc ?_); refine ZP hst ?_) | ((with_reducible refine at_box ?_); refine ZP hst ?_) | ((with_reducible refine at_bslice ?_); refine ZS hst ?_)); clear hst; (first | ((fail_if_success have := b0); intro b0 w hb0 hst) | ((fail_if_success have := b1); intro b1 w hb1 hst) | ((fail_if_success have := b2); intro b2 w hb2 hst) | ((fail_if_success have := b3); intro b3 w hb3 hst) | ((fail_if_success have := b4); intro b4 w hb4 hst) | (intro b5 w hb5 hst)))))
        refine ret_cell hst rfl rfl (by (repeat' (first | exact List.Mem.head _ | apply List.Mem.tail)); done) (by exact agg_of rfl rfl) rfl ?_
        exact FIN.out _ 2 tg (.inl rfl) hst
      · have hm0' : ((m : Int) == 0) = false := by simp; omega
        rcases hs2.out with rfl | rfl
        · go_wp2_with ((first | ((with_reducible refine at_load ?_); first | refine X1 hst ?_ | refine XW hst ?_) | ((with_reducible refine at_store ?_); (first | refine Y1 hst ?_ | refine YW hst ?_); clear hst; intro w hst) | ((first | ((with_reducible refine at_alloc ?_); refine ZP hst ?_) | ((with_reducible refine at_box ?_); refine ZP hst ?_) | ((with_reducible refine at_bslice ?_); refine ZS hst ?_)); clear hst; (first | ((fail_if_success have := b0); intro b0 w hb0 hst) | ((fail_if_success have := b1); intro b1 w hb1 hst) | ((fail_if_success have := b2); intro b2 w hb2 hst) | ((fail_if_success have := b3); intro b3 w hb3 hst) | ((fail_if_success have := b4); intro b4 w hb4 hst) | (intro b5 w hb5 hst)))))
          refine ret_cell hst rfl rfl (by (repeat' (first | exact List.Mem.head _ | apply List.Mem.tail)); done) (by exact agg_of rfl rfl) rfl ?_
          exact FIN.out _ 1 ByteArray.empty (.inr rfl) hst
        · go_wp2_with ((first | ((with_reducible refine at_load ?_); first | refine X1 hst ?_ | refine XW hst ?_) | ((with_reducible refine at_store ?_); (first | refine Y1 hst ?_ | refine YW hst ?_); clear hst; intro w hst) | ((first | ((with_reducible refine at_alloc ?_); refine ZP hst ?_) | ((with_reducible refine at_box ?_); refine ZP hst ?_) | ((with_reducible refine at_bslice ?_); refine ZS hst ?_)); clear hst; (first | ((fail_if_success have := b0); intro b0 w hb0 hst) | ((fail_if_success have := b1); intro b1 w hb1 hst) | ((fail_if_success have := b2); intro b2 w hb2 hst) | ((fail_if_success have := b3); intro b3 w hb3 hst) | ((fail_if_success have := b4); intro b4 w hb4 hst) | (intro b5 w hb5 hst)))))
          refine ret_cell hst rfl rfl (by (repeat' (first | exact List.Mem.head _ | apply List.Mem.tail)); done) (by exact agg_of rfl rfl) rfl ?_
          exact FIN.out _ 2 tg (.inl rfl) hst
    · obtain ⟨g1, g2, g3⟩ := HG rfl
      obtain ⟨x, kk, hg⟩ := F.get_lt (f := k) (i := m) (by omega)
      have HX := Lib.hid hg
      clear hg HG
      rcases hkd with rfl | rfl
      · go_upto_region 11 with ((first | ((with_reducible refine at_load ?_); first | refine X1 hst ?_ | refine XW hst ?_) | ((with_reducible refine at_store ?_); (first | refine Y1 hst ?_ | refine YW hst ?_); clear hst; intro w hst) | ((first | ((with_reducible refine at_alloc ?_); refine ZP hst ?_) | ((with_reducible refine at_box ?_); refine ZP hst ?_) | ((with_reducible refine at_bslice ?_); refine ZS hst ?_)); clear hst; (first | ((fail_if_success have := b0); intro b0 w hb0 hst) | ((fail_if_success have := b1); intro b1 w hb1 hst) | ((fail_if_success have := b2); intro b2 w hb2 hst) | ((fail_if_success have := b3); intro b3 w hb3 hst) | ((fail_if_success have := b4); intro b4 w hb4 hst) | (intro b5 w hb5 hst)))))
        go_cut [14] (fun y wx => ∃ (b3 : Nat) (h' : TH) (k' : F TH) (p' : Option Addr) (c' : Nat) (left2 : Int) (oidA : Option Nat) (nA capA : Nat) (xsA spA : List Value), y = .pointer (some ⟨b3, 0, none⟩) ∧ Hid (w0.heap.size ≤ b3 ∧ Sl TS (Kd w0.heap.size [b3, b2, b1, b0] oid2) wx p' k' ∧ Row TS (Kd w0.heap.size [b3, b2, b1, b0] oid2) wx (xs2 ++ sp2) fo ∧ k'.len ≤ c' ∧ TreeOK h' k' ∧ 0 ≤ left2 ∧ (k'.size : Int) + 1 ≤ left' - left2 ∧ Gr 1 oidA nA capA xsA spA ∧ (∀ v ∈ xsA, ∃ s : ByteArray, v = .string s ∧ s.size ≤ 8) ∧ (nA : Int) + left2 ≤ M) ∧ Hid (St B [65, 9] w0 wx [(some b3, [.int .i64 h'.kind, .string h'.v, .string h'.a, .string h'.t, .int .i64 h'.st, .slice p' k'.len c'], 24), (some b2, [.int .i64 0, .string ByteArray.empty, .string ByteArray.empty, .string ByteArray.empty, .int .i64 0, .slice none 0 0], 24), (some b1, [.int .i64 h.kind, .string h.v, .string h.a, .string h.t, .int .i64 h.st, .slice p k.len c], 24), (some b0, [.int .i64 2, .string ByteArray.empty, .string a, .string tg, .int .i64 st2, .slice (slP oid2) m cap2], 24), (oid2, xs2 ++ sp2, 24), (some fb, [.int .i64 63, .int .i64 left2, .slice (slP oidA) nA capA], 65), (oidA, xsA ++ spA, 9)]))
        case first =>
          obtain ⟨pb, po, q, capq, tq, rfl, hcap, hslq, hlt, -, hcc⟩ := Sl.at2 HA.out.2.2.2.1 HX.out
          have HCC := Lib.hid (And.intro hcap (And.intro hslq (And.intro hlt hcc)))
          clear hcap hslq hlt hcc
          have hmk : m < k.len := by omega
          refine wp_plan (fun w => St B [65, 9] w0 w [(some b1, [.int .i64 h.kind, .string h.v, .string h.a, .string h.t, .int .i64 h.st, .slice (some ⟨pb, po, none⟩) k.len c], 24), (some b0, [.int .i64 2, .string ByteArray.empty, .string a, .string tg, .int .i64 st2, .slice (slP oid2) m cap2], 24)]) [0, 1, 2, 3, 4, 5, 6, 7, 8, 9, 10] (.q 0 (.q 1 (.q 2 (.q 3 (.q 4 (.q 5 (.q 6 (.q 7 (.q 8 (.q 9 (.q 10 (.e2 11 true (.e 12 true (.e 13 false (.fin))) 12 true (.e 11 true (.e 13 false (.fin))))))))))))))) mixed (by kernel_rfl) (by kernel_rfl) (by kernel_rfl) (fun d v c a w h => by cases d <;> exact h) (hst.drew.sub (.cons _ (.cons_cons _ (.cons_cons _ (.cons _ (.cons _ (.cons _ (List.Sublist.refl _)))))))) ?_
          replace hst := hst.drew
          repeat ((refine AQ ?_); first | (refine Q1 ?_; go_frame) | (refine QW ?_; go_frame) | (refine QV ?_; go_frame))
          (refine AQ ?_)
          refine p_ldc (vs := [.int .i64 x.kind, .string x.v, .string x.a, .string x.t, .int .i64 x.st, .slice q kk.len capq]) (fun w hS j v hv => ?_) rfl rfl rfl (by exact agg_of rfl rfl) ?_
          · have h1 := HCC.out.2.2.2 j v hv
            have h2 := hS.kp.low pb HCC.out.2.2.1
            simp only [World.cell?] at h1 ⊢
            rw [h2]
            exact h1
          go_frame
          repeat ((refine AQ ?_); first | (refine Q1 ?_; go_frame) | (refine QW ?_; go_frame) | (refine QV ?_; go_frame))
          have hxin := (F.all_get HA.out.2.2.1.2 HX.out)
          have HXI := Lib.hid (And.intro hxin.1.1 (And.intro hxin.1.2 hxin.2))
          clear hxin
          have hkin : FIn kk := ⟨HXI.out.2.1, HXI.out.2.2⟩
          have HKI := Lib.hid hkin
          clear hkin
          refine at_e2 (by simp only [List.getElem?_toArray, List.getElem?_cons_succ, List.getElem?_cons_zero]; rfl) rfl (by simp only [List.getElem?_toArray, List.getElem?_cons_succ, List.getElem?_cons_zero]; rfl) rfl ?_ ?_
          · refine e_call (by go_simp; exact ⟨rfl, IntWalk.i64_in _ (by omega)⟩) (HA.out.2.2.2.2 x kk (F.size_get HX.out) M B fb left' oid' n' cap' xs' sp' (level + 1) (st2 == 2) q capq _ ⟨hst.rebase (L' := [_, _]) (.cons _ (.cons _ (.cons _ (.cons _ (List.Sublist.refl _))))) rfl, HI.out.gr1, HI.out.strs, HI.out.most, HA.out.1.mle⟩ (by omega) hlr (by omega) (by omega) HXI.out.1 HKI.out HCC.out.1 (Sl.hold (Hold.kp hst.kp fun b t h => ⟨.inl h, h⟩) HCC.out.2.1)) ?_
            rintro e w1 ⟨h', k', p', c', left2, oidA, nA, capA, xsA, spA, rfl, hsl, hcc, hok, h0, hsz, hF', -⟩
            have hsl2 := hsl.hold (Kd.new (bs := [b2, b1, b0]) (oid := oid2) hst ⟨_, rfl⟩)
            have hrow := HI.out.row.hold (Hold.drew.trans (Kd.call hF'.st.kp))
            replace hst := St.after (L1 := [_, _, _, _]) hst hF'.st rfl rfl (fun _ h => h)
            simp only [List.cons_append, List.nil_append] at hst
            have hwa := St.watchP (L1 := [_, _, _, _]) (L2 := [_, _]) hst (bs := [b2, b1, b0] ++ oid2.toList) (by cases oid2 <;> rfl) rfl
            simp only [List.cons_append, List.nil_append] at hwa
            have HQ := Lib.hid (And.intro hsl2 (And.intro hrow (And.intro hcc (And.intro hok (And.intro h0 (And.intro hsz (And.intro hF' hst)))))))
            have hlo := hst.kp.size
            clear hsl hsl2 hrow hcc hok h0 hsz hF' hst
            have hst := hwa
            clear hwa
            refine ⟨_, rfl, fun _ => HQ.out.2.2.2.2.2.2.2.sub (.cons _ (.cons_cons _ (.cons_cons _ (.cons _ (.cons _ (.cons _ (List.Sublist.refl _))))))), ?_⟩
            unfold tval
            go_frame
            refine at_e (by simp only [List.getElem?_toArray, List.getElem?_cons_succ, List.getElem?_cons_zero]; rfl) rfl ?_
            refine p_new hst (by go_simp; rfl) ?_
            clear hst
            intro b3 w hb3 hst
            refine ⟨fun _ => (HQ.out.2.2.2.2.2.2.2.unwatch hst (HQ.out.2.2.2.2.2.2.2.lo (bs := [b2, b1, b0]) (by (repeat' (first | exact List.Mem.head _ | apply List.Mem.tail)); done) (by simp; omega))).sub (.cons _ (.cons _ (.cons_cons _ (.cons_cons _ (.cons _ (.cons _ (.cons _ (List.Sublist.refl _)))))))), ?_⟩
            go_frame
            refine at_e (by simp only [List.getElem?_toArray, List.getElem?_cons_succ, List.getElem?_cons_zero]; rfl) rfl ?_
            (refine EW hst ?_; clear hst; intro w hst; refine ⟨?_, ?_⟩; rotate_left; go_frame)
            · unfold wpP
              go_wp2_with fail
              go_meet
              case rel =>
                obtain ⟨hsl, hrow, hcc, hok, h0, hsz, hF', hs0⟩ := HQ.out
                have hH := Kd.hold2 (lo := w0.heap.size) (nb := [b3]) (bs := [b2, b1, b0]) hst (in_bs (bs := [b2, b1, b0])) (by simpa using hb3)
                exact ⟨b3, h', k', p', c', left2, oidA, nA, capA, xsA, spA, rfl, Lib.hid ⟨by omega, hsl.hold hH, hrow.hold hH, hcc, hok, h0, hsz, hF'.gr, hF'.strs, hF'.most⟩, Lib.hid (hs0.unwatch hst (hs0.lo (bs := [b2, b1, b0]) (by (repeat' (first | exact List.Mem.head _ | apply List.Mem.tail)); done) (by simp; omega)))⟩
            · intro h; cases h
          · have hwa := St.watchP (L1 := [_, _, _, _]) (L2 := [_, _]) hst (bs := [b2, b1, b0] ++ oid2.toList) (by cases oid2 <;> rfl) rfl
            simp only [List.cons_append, List.nil_append] at hwa
            have HST := Lib.hid hst
            have hlo := hst.kp.size
            clear hst
            have hst := hwa
            clear hwa
            refine p_new hst (by go_simp; rfl) ?_
            clear hst
            intro b3 w hb3 hst
            have hrow := HI.out.row.hold (Hold.drew.trans (Kd.hold2 (lo := w0.heap.size) (nb := [b3]) (bs := [b2, b1, b0]) hst (in_bs (bs := [b2, b1, b0])) (by simpa using hb3)))
            replace hst := HST.out.unwatch hst (HST.out.lo (bs := [b2, b1, b0]) (by (repeat' (first | exact List.Mem.head _ | apply List.Mem.tail)); done) (by simp; omega))
            have HRO := Lib.hid hrow
            clear hrow
            refine ⟨fun _ => hst.sub (.cons _ (.cons _ (.cons_cons _ (.cons_cons _ (.cons _ (.cons _ (.cons _ (List.Sublist.refl _)))))))), ?_⟩
            go_frame
            refine at_e (by simp only [List.getElem?_toArray, List.getElem?_cons_succ, List.getElem?_cons_zero]; rfl) rfl ?_
            refine e_call (by go_simp; exact ⟨rfl, IntWalk.i64_in _ (by omega)⟩) (HA.out.2.2.2.2 x kk (F.size_get HX.out) M B fb left' oid' n' cap' xs' sp' (level + 1) (st2 == 2) q capq _ ⟨hst.rebase (L' := [_, _]) (.cons _ (.cons _ (.cons _ (.cons _ (.cons _ (List.Sublist.refl _)))))) rfl, HI.out.gr1, HI.out.strs, HI.out.most, HA.out.1.mle⟩ (by omega) hlr (by omega) (by omega) HXI.out.1 HKI.out HCC.out.1 (Sl.hold (Hold.kp hst.kp fun b t h => ⟨.inl h, h⟩) HCC.out.2.1)) ?_
            rintro e w1 ⟨h', k', p', c', left2, oidA, nA, capA, xsA, spA, rfl, hsl, hcc, hok, h0, hsz, hF', -⟩
            have hsl2 := hsl.hold (Kd.new (bs := [b3, b2, b1, b0]) (oid := oid2) hst ⟨_, rfl⟩)
            have hrow := HRO.out.hold (Kd.call hF'.st.kp)
            replace hst := St.after (L1 := [_, _, _, _, _]) hst hF'.st rfl rfl (fun _ h => h)
            simp only [List.cons_append, List.nil_append] at hst
            have hwa := St.watchP (L1 := [_, _, _, _, _]) (L2 := [_, _]) hst (bs := [b3, b2, b1, b0] ++ oid2.toList) (by cases oid2 <;> rfl) rfl
            simp only [List.cons_append, List.nil_append] at hwa
            have HQ := Lib.hid (And.intro hsl2 (And.intro hrow (And.intro hcc (And.intro hok (And.intro h0 (And.intro hsz (And.intro hF' hst)))))))
            clear hsl hsl2 hrow hcc hok h0 hsz hF' hst
            have hst := hwa
            clear hwa
            refine ⟨_, rfl, fun _ => HQ.out.2.2.2.2.2.2.2.sub (.cons _ (.cons _ (.cons_cons _ (.cons_cons _ (.cons _ (.cons _ (.cons _ (List.Sublist.refl _)))))))), ?_⟩
            unfold tval
            go_frame
            refine at_e (by simp only [List.getElem?_toArray, List.getElem?_cons_succ, List.getElem?_cons_zero]; rfl) rfl ?_
            (refine EW hst ?_; clear hst; intro w hst; refine ⟨?_, ?_⟩; rotate_left; go_frame)
            · unfold wpP
              go_wp2_with fail
              go_meet
              case rel =>
                obtain ⟨hsl, hrow, hcc, hok, h0, hsz, hF', hs0⟩ := HQ.out
                have hH := Kd.hold2 (lo := w0.heap.size) (nb := []) (bs := [b3, b2, b1, b0]) hst (in_bs (bs := [b3, b2, b1, b0])) (by simp)
                exact ⟨b3, h', k', p', c', left2, oidA, nA, capA, xsA, spA, rfl, Lib.hid ⟨by omega, hsl.hold hH, hrow.hold hH, hcc, hok, h0, hsz, hF'.gr, hF'.strs, hF'.most⟩, Lib.hid (hs0.unwatch hst (hs0.lo (bs := [b3, b2, b1, b0]) (by (repeat' (first | exact List.Mem.head _ | apply List.Mem.tail)); done) (by simp; omega)))⟩
            · intro h; cases h
        case rest =>
          clear hst
          obtain ⟨b3, h', k', p', c', left2, oidA, nA, capA, xsA, spA, rfl, HQ, HS⟩ := hcut
          have hst := HS.out
          clear HS
          have hlo0 := HQ.out.1
          have hwa := St.watchP (L1 := [_, _, _, _, _]) (L2 := [_, _]) hst (bs := [b3, b2, b1, b0] ++ oid2.toList) (by cases oid2 <;> rfl) rfl
          simp only [List.cons_append, List.nil_append] at hwa
          have HST := Lib.hid hst
          clear hst
          have hst := hwa
          clear hwa
          rename World => wd
          go_upto_region 12 with fail
          go_cut [98] (fun y wx => ∃ b : Bool, y = .bool b ∧ St B ⟨[65, 9], [b3, b2, b1, b0] ++ oid2.toList⟩ wd wx [(some b3, [.int .i64 h'.kind, .string h'.v, .string h'.a, .string h'.t, .int .i64 h'.st, .slice p' k'.len c'], 24), (some b2, [.int .i64 0, .string ByteArray.empty, .string ByteArray.empty, .string ByteArray.empty, .int .i64 0, .slice none 0 0], 24), (some b1, [.int .i64 h.kind, .string h.v, .string h.a, .string h.t, .int .i64 h.st, .slice p k.len c], 24), (some b0, [.int .i64 2, .string ByteArray.empty, .string a, .string tg, .int .i64 st2, .slice (slP oid2) m cap2], 24), (oid2, xs2 ++ sp2, 24), (some fb, [.int .i64 63, .int .i64 left2, .slice (slP oidA) nA capA], 65), (oidA, xsA ++ spA, 9)])
          case first =>
            have c0 := hst.cell (b := b3) (off := 0) (by (repeat' (first | exact List.Mem.head _ | apply List.Mem.tail)); done) rfl
            have c1 := hst.cell (b := b3) (off := 1) (by (repeat' (first | exact List.Mem.head _ | apply List.Mem.tail)); done) rfl
            have c2 := hst.cell (b := b3) (off := 2) (by (repeat' (first | exact List.Mem.head _ | apply List.Mem.tail)); done) rfl
            have c3 := hst.cell (b := b3) (off := 3) (by (repeat' (first | exact List.Mem.head _ | apply List.Mem.tail)); done) rfl
            have c4 := hst.cell (b := b3) (off := 4) (by (repeat' (first | exact List.Mem.head _ | apply List.Mem.tail)); done) rfl
            have c5 := hst.cell (b := b3) (off := 5) (by (repeat' (first | exact List.Mem.head _ | apply List.Mem.tail)); done) rfl
            rcases hs2.out with rfl | rfl
            · go_wp2_with ((first | ((with_reducible refine at_load ?_); first | refine X1 hst ?_ | refine XW hst ?_) | ((with_reducible refine at_store ?_); (first | refine Y1 hst ?_ | refine YW hst ?_); clear hst; intro w hst)))
              go_meet
              case rel => exact ⟨false, rfl, hst⟩
            · go_wp2_with ((first | ((with_reducible refine at_load ?_); first | refine X1 hst ?_ | refine XW hst ?_) | ((with_reducible refine at_store ?_); (first | refine Y1 hst ?_ | refine YW hst ?_); clear hst; intro w hst)))
              refine (void_any _ _ _ _ _ _ ⟨_, _, _, rfl⟩ _).mono ?_
              rintro e w1 ⟨b, rfl, hb⟩
              replace hst := hst.below hb
              clear c0 c1 c2 c3 c4 c5
              go_wp2_with ((first | ((with_reducible refine at_load ?_); first | refine X1 hst ?_ | refine XW hst ?_) | ((with_reducible refine at_store ?_); (first | refine Y1 hst ?_ | refine YW hst ?_); clear hst; intro w hst)))
              go_meet
              case rel => exact ⟨_, rfl, hst⟩
          case rest =>
          clear hst
          obtain ⟨b, rfl, hst⟩ := hcut
          go_upto_if 98 with fail
          go_cut [0] (fun y wx => y = .pointer (some ⟨fb, 0, none⟩) ∧ ∃ st3 : Int, Hid (st3 = h'.st ∨ st3 = 2) ∧ St B ⟨[65, 9], [b3, b2, b1, b0] ++ oid2.toList⟩ wd wx [(some b3, [.int .i64 h'.kind, .string h'.v, .string h'.a, .string h'.t, .int .i64 st3, .slice p' k'.len c'], 24), (some b2, [.int .i64 0, .string ByteArray.empty, .string ByteArray.empty, .string ByteArray.empty, .int .i64 0, .slice none 0 0], 24), (some b1, [.int .i64 h.kind, .string h.v, .string h.a, .string h.t, .int .i64 h.st, .slice p k.len c], 24), (some b0, [.int .i64 2, .string ByteArray.empty, .string a, .string tg, .int .i64 st2, .slice (slP oid2) m cap2], 24), (oid2, xs2 ++ sp2, 24), (some fb, [.int .i64 63, .int .i64 left2, .slice (slP oidA) nA capA], 65), (oidA, xsA ++ spA, 9)])
          case first =>
            cases b
            · go_wp2_with ((first | ((with_reducible refine at_load ?_); first | refine X1 hst ?_ | refine XW hst ?_) | ((with_reducible refine at_store ?_); (first | refine Y1 hst ?_ | refine YW hst ?_); clear hst; intro w hst)))
              go_meet
              case rel => exact ⟨rfl, _, Lib.hid (.inl rfl), hst⟩
            · go_wp2_with ((first | ((with_reducible refine at_load ?_); first | refine X1 hst ?_ | refine XW hst ?_) | ((with_reducible refine at_store ?_); (first | refine Y1 hst ?_ | refine YW hst ?_); clear hst; intro w hst)))
              go_meet
              case rel => exact ⟨rfl, _, Lib.hid (.inr rfl), hst⟩
          case rest =>
          clear hst
          obtain ⟨rfl, st3, H3, hst⟩ := hcut
          replace hst := hst.perm (List.perm_append_comm (l₁ := [_, _, _, _]) (l₂ := [_])|>.append_right [_, _])
          simp only [List.cons_append, List.nil_append] at hst
          have hgr := HI.out.gr
          go_wp2_with (first | (first | ((with_reducible refine at_bslice ?_); (refine ZS hst ?_; clear hst; (first | ((fail_if_success have := b0); intro b0 w hb0 hst) | ((fail_if_success have := b1); intro b1 w hb1 hst) | ((fail_if_success have := b2); intro b2 w hb2 hst) | ((fail_if_success have := b3); intro b3 w hb3 hst) | ((fail_if_success have := b4); intro b4 w hb4 hst) | (intro b5 w hb5 hst)))) | ((with_reducible refine at_append ?_); (refine wl_appH hst rfl rfl rfl rfl (by first | exact el213 | exact el22 | exact el28 | exact el29 | exact el48 | exact el52 | exact el134 | exact el146 | exact el205) hgr (by decide) (by decide) rfl rfl (by omega) (by simp only [maxLen]; omega) ?_; clear hst hgr; intro oid cap sp w hst hgr hno))) | (first | ((with_reducible refine at_load ?_); first | refine X1 hst ?_ | refine XW hst ?_) | ((with_reducible refine at_store ?_); (first | refine Y1 hst ?_ | refine YW hst ?_); clear hst; intro w hst)))
          go_round
          case rel =>
            obtain ⟨hlo1, hsl, hrow, hcc, hok, h0, hsz, hg1, hstr, hmo⟩ := HQ.out
            have hH := Kd.hold (lo := w0.heap.size) (lo' := w0.heap.size) (bs := [b3, b2, b1, b0]) (oid := oid2) (oid3 := oid) hst (by (repeat' (first | exact List.Mem.head _ | apply List.Mem.tail)); done) (in_bs (bs := [b3, b2, b1, b0])) (Nat.le_refl _)
            have hun := HST.out.unwatch hst (HST.out.lo (bs := [b3, b2, b1, b0]) (by (repeat' (first | exact List.Mem.head _ | apply List.Mem.tail)); done) (by simp; omega))
            have hrow2 := Row.snoc (h := ⟨h'.kind, h'.v, h'.a, h'.t, st3⟩) (hrow.hold hH) (by rw [HI.out.gr.len, HI.out.len]; rfl) sp hcc (hsl.hold hH)
            refine ⟨m + 1, by rw [show (m : Int) + stp = ((m + 1 : Nat) : Int) by omega], fo.snoc ⟨h'.kind, h'.v, h'.a, h'.t, st3⟩ k', oid, cap, _, sp, left2, oidA, nA, capA, xsA, spA, Lib.hid ⟨by rw [F.len_snoc, HI.out.len], by omega, hgr, hrow2.hold (Kd.less (by simp)), F.all_snoc' HI.out.all (hok.1.styled H3.out) hok.2, fun h => absurd h (by decide), h0, by rw [F.size_snoc]; have := HI.out.size; omega, hg1, hstr, hmo⟩, Lib.hid ?_⟩
            have h1 := (hun.sub (.cons_cons _ (.cons _ (List.Sublist.refl _)))).perm ((List.perm_append_comm (l₁ := [_]) (l₂ := [_, _, _])).append_right [_, _])
            exact h1
          case measure => simp [intOf]; omega
      · go_upto_region 9 with ((first | ((with_reducible refine at_load ?_); first | refine X1 hst ?_ | refine XW hst ?_) | ((with_reducible refine at_store ?_); (first | refine Y1 hst ?_ | refine YW hst ?_); clear hst; intro w hst) | ((first | ((with_reducible refine at_alloc ?_); refine ZP hst ?_) | ((with_reducible refine at_box ?_); refine ZP hst ?_) | ((with_reducible refine at_bslice ?_); refine ZS hst ?_)); clear hst; (first | ((fail_if_success have := b0); intro b0 w hb0 hst) | ((fail_if_success have := b1); intro b1 w hb1 hst) | ((fail_if_success have := b2); intro b2 w hb2 hst) | ((fail_if_success have := b3); intro b3 w hb3 hst) | ((fail_if_success have := b4); intro b4 w hb4 hst) | (intro b5 w hb5 hst)))))
        go_cut [13] (fun y wx => ∃ (b3 : Nat) (hK : TH) (pK : Option Addr) (cK : Nat) (oidA : Option Nat) (nA capA : Nat) (xsA spA : List Value), y = .pointer (some ⟨b3, 0, none⟩) ∧ Hid (w0.heap.size ≤ b3 ∧ KeyOK hK .nil ∧ Row TS (Kd w0.heap.size [b3, b2, b1, b0] oid2) wx (xs2 ++ sp2) fo ∧ Gr 1 oidA nA capA xsA spA ∧ (∀ v ∈ xsA, ∃ s : ByteArray, v = .string s ∧ s.size ≤ 8) ∧ (nA : Int) + (left' - 1) ≤ M) ∧ Hid (St B [65, 9] w0 wx [(some b3, [.int .i64 hK.kind, .string hK.v, .string hK.a, .string hK.t, .int .i64 hK.st, .slice pK 0 cK], 24), (some b2, [.int .i64 0, .string ByteArray.empty, .string ByteArray.empty, .string ByteArray.empty, .int .i64 0, .slice none 0 0], 24), (some b1, [.int .i64 h.kind, .string h.v, .string h.a, .string h.t, .int .i64 h.st, .slice p k.len c], 24), (some b0, [.int .i64 3, .string ByteArray.empty, .string a, .string tg, .int .i64 st2, .slice (slP oid2) m cap2], 24), (oid2, xs2 ++ sp2, 24), (some fb, [.int .i64 63, .int .i64 (left' - 1), .slice (slP oidA) nA capA], 65), (oidA, xsA ++ spA, 9)]))
        case first =>
          obtain ⟨pb, po, q, capq, tq, rfl, hcap, hslq, hlt, -, hcc⟩ := Sl.at2 HA.out.2.2.2.1 HX.out
          have HCC := Lib.hid (And.intro hcap (And.intro hslq (And.intro hlt hcc)))
          clear hcap hslq hlt hcc
          have hmk : m < k.len := by omega
          have hxin := (F.all_get HA.out.2.2.1.2 HX.out)
          have HXI := Lib.hid (And.intro hxin.1.1 (And.intro hxin.1.2 hxin.2))
          clear hxin
          have hkin : FIn kk := ⟨HXI.out.2.1, HXI.out.2.2⟩
          have HKI := Lib.hid hkin
          clear hkin
          have hfl := HI.out.len
          subst hfl
          have hslo := Kd.sl hst (by (repeat' (first | exact List.Mem.head _ | apply List.Mem.tail)); done) HI.out.gr rfl HI.out.row
          have HSO := Lib.hid hslo
          clear hslo
          refine wp_plan (fun w => St B [65, 9] w0 w [(some b1, [.int .i64 h.kind, .string h.v, .string h.a, .string h.t, .int .i64 h.st, .slice (some ⟨pb, po, none⟩) k.len c], 24), (some b0, [.int .i64 3, .string ByteArray.empty, .string a, .string tg, .int .i64 st2, .slice (slP oid2) fo.len cap2], 24)]) [0, 1, 2, 3, 4, 5, 6, 7] (.q 0 (.q 1 (.q 2 (.q 3 (.q 4 (.q 5 (.q 6 (.q 7 (.e2 8 true (.e 9 true (.e 10 false (.fin))) 9 true (.e 8 true (.e 10 false (.fin)))))))))))) mixed (by kernel_rfl) (by kernel_rfl) (by kernel_rfl) (fun d v c a w h => by cases d <;> exact h) (hst.drew.sub (.cons _ (.cons_cons _ (.cons_cons _ (.cons _ (.cons _ (.cons _ (List.Sublist.refl _)))))))) ?_
          replace hst := hst.drew
          repeat ((refine AQ ?_); first | (refine Q1 ?_; go_frame) | (refine QW ?_; go_frame) | (refine QV ?_; go_frame))
          (refine AQ ?_)
          refine p_ldc (vs := [.int .i64 x.kind, .string x.v, .string x.a, .string x.t, .int .i64 x.st, .slice q kk.len capq]) (fun w hS j v hv => ?_) rfl rfl rfl (by exact agg_of rfl rfl) ?_
          · have h1 := HCC.out.2.2.2 j v hv
            have h2 := hS.kp.low pb HCC.out.2.2.1
            simp only [World.cell?] at h1 ⊢
            rw [h2]
            exact h1
          go_frame
          repeat ((refine AQ ?_); first | (refine Q1 ?_; go_frame) | (refine QW ?_; go_frame) | (refine QV ?_; go_frame))
          refine at_e2 (by simp only [List.getElem?_toArray, List.getElem?_cons_succ, List.getElem?_cons_zero]; rfl) rfl (by simp only [List.getElem?_toArray, List.getElem?_cons_succ, List.getElem?_cons_zero]; rfl) rfl ?_ ?_
          · refine e_call (by go_simp; first | rfl | exact ⟨rfl, rfl⟩) (key_any x ⟨3, ByteArray.empty, a, tg, st2⟩ kk fo (fun h' => HA.out.2.2.2.2 h' kk (F.size_get HX.out)) (fun h' => HA.out.2.2.2.2 h' .nil (by have := F.size_get HX.out; simp only [F.size]; omega)) M B fb w0.heap.size left' oid' n' cap' xs' sp' level q (slP oid2) capq cap2 _ ⟨hst.rebase (L' := [_, _]) (.cons _ (.cons _ (.cons _ (.cons _ (List.Sublist.refl _))))) rfl, HI.out.gr1, HI.out.strs, HI.out.most, HA.out.1.mle⟩ (by omega) hlr hv1 (by omega) HXI.out.1 HKI.out HCC.out.1 (Sl.hold (Hold.kp hst.kp fun b t h => ⟨.inl h, h⟩) HCC.out.2.1) (HSO.out.hold Hold.drew) (by omega)) ?_
            rintro e w1 ⟨hK, pK, cK, oidA, nA, capA, xsA, spA, rfl, hko, hF'⟩
            have hrow := HI.out.row.hold (Hold.drew.trans (Kd.call hF'.st.kp))
            replace hst := St.after (L1 := [_, _, _, _]) hst hF'.st rfl rfl (fun _ h => h)
            simp only [List.cons_append, List.nil_append] at hst
            have hwa := St.watchP (L1 := [_, _, _, _]) (L2 := [_, _]) hst (bs := [b2, b1, b0] ++ oid2.toList) (by cases oid2 <;> rfl) rfl
            simp only [List.cons_append, List.nil_append] at hwa
            have HQ := Lib.hid (And.intro hrow (And.intro hko (And.intro hF' hst)))
            have hlo := hst.kp.size
            clear hrow hko hF' hst
            have hst := hwa
            clear hwa
            refine ⟨_, rfl, fun _ => HQ.out.2.2.2.sub (.cons _ (.cons_cons _ (.cons_cons _ (.cons _ (.cons _ (.cons _ (List.Sublist.refl _))))))), ?_⟩
            unfold tval
            go_frame
            refine at_e (by simp only [List.getElem?_toArray, List.getElem?_cons_succ, List.getElem?_cons_zero]; rfl) rfl ?_
            refine p_new hst (by go_simp; rfl) ?_
            clear hst
            intro b3 w hb3 hst
            refine ⟨fun _ => (HQ.out.2.2.2.unwatch hst (HQ.out.2.2.2.lo (bs := [b2, b1, b0]) (by (repeat' (first | exact List.Mem.head _ | apply List.Mem.tail)); done) (by simp; omega))).sub (.cons _ (.cons _ (.cons_cons _ (.cons_cons _ (.cons _ (.cons _ (.cons _ (List.Sublist.refl _)))))))), ?_⟩
            go_frame
            refine at_e (by simp only [List.getElem?_toArray, List.getElem?_cons_succ, List.getElem?_cons_zero]; rfl) rfl ?_
            (refine EW hst ?_; clear hst; intro w hst; refine ⟨?_, ?_⟩; rotate_left; go_frame)
            · unfold wpP
              go_wp2_with fail
              go_meet
              case rel =>
                obtain ⟨hrow, hko, hF', hs0⟩ := HQ.out
                have hH := Kd.hold2 (lo := w0.heap.size) (nb := [b3]) (bs := [b2, b1, b0]) hst (in_bs (bs := [b2, b1, b0])) (by simpa using hb3)
                exact ⟨b3, hK, pK, cK, oidA, nA, capA, xsA, spA, rfl, Lib.hid ⟨by omega, hko, hrow.hold hH, hF'.gr, hF'.strs, hF'.most⟩, Lib.hid (hs0.unwatch hst (hs0.lo (bs := [b2, b1, b0]) (by (repeat' (first | exact List.Mem.head _ | apply List.Mem.tail)); done) (by simp; omega)))⟩
            · intro h; cases h
          · have hwa := St.watchP (L1 := [_, _, _, _]) (L2 := [_, _]) hst (bs := [b2, b1, b0] ++ oid2.toList) (by cases oid2 <;> rfl) rfl
            simp only [List.cons_append, List.nil_append] at hwa
            have HST := Lib.hid hst
            have hlo := hst.kp.size
            clear hst
            have hst := hwa
            clear hwa
            refine p_new hst (by go_simp; rfl) ?_
            clear hst
            intro b3 w hb3 hst
            have hrow := HI.out.row.hold (Hold.drew.trans (Kd.hold2 (lo := w0.heap.size) (nb := [b3]) (bs := [b2, b1, b0]) hst (in_bs (bs := [b2, b1, b0])) (by simpa using hb3)))
            replace hst := HST.out.unwatch hst (HST.out.lo (bs := [b2, b1, b0]) (by (repeat' (first | exact List.Mem.head _ | apply List.Mem.tail)); done) (by simp; omega))
            have hslo := Kd.sl hst (by (repeat' (first | exact List.Mem.head _ | apply List.Mem.tail)); done) HI.out.gr rfl hrow
            have HRO := Lib.hid (And.intro hrow hslo)
            clear hrow hslo
            refine ⟨fun _ => hst.sub (.cons _ (.cons _ (.cons_cons _ (.cons_cons _ (.cons _ (.cons _ (.cons _ (List.Sublist.refl _)))))))), ?_⟩
            go_frame
            refine at_e (by simp only [List.getElem?_toArray, List.getElem?_cons_succ, List.getElem?_cons_zero]; rfl) rfl ?_
            refine e_call (by go_simp; first | rfl | exact ⟨rfl, rfl⟩) (key_any x ⟨3, ByteArray.empty, a, tg, st2⟩ kk fo (fun h' => HA.out.2.2.2.2 h' kk (F.size_get HX.out)) (fun h' => HA.out.2.2.2.2 h' .nil (by have := F.size_get HX.out; simp only [F.size]; omega)) M B fb w0.heap.size left' oid' n' cap' xs' sp' level q (slP oid2) capq cap2 _ ⟨hst.rebase (L' := [_, _]) (.cons _ (.cons _ (.cons _ (.cons _ (.cons _ (List.Sublist.refl _)))))) rfl, HI.out.gr1, HI.out.strs, HI.out.most, HA.out.1.mle⟩ (by omega) hlr hv1 (by omega) HXI.out.1 HKI.out HCC.out.1 (Sl.hold (Hold.kp hst.kp fun b t h => ⟨.inl h, h⟩) HCC.out.2.1) (HRO.out.2) (by omega)) ?_
            rintro e w1 ⟨hK, pK, cK, oidA, nA, capA, xsA, spA, rfl, hko, hF'⟩
            have hrow := HRO.out.1.hold (Kd.call hF'.st.kp)
            replace hst := St.after (L1 := [_, _, _, _, _]) hst hF'.st rfl rfl (fun _ h => h)
            simp only [List.cons_append, List.nil_append] at hst
            have hwa := St.watchP (L1 := [_, _, _, _, _]) (L2 := [_, _]) hst (bs := [b3, b2, b1, b0] ++ oid2.toList) (by cases oid2 <;> rfl) rfl
            simp only [List.cons_append, List.nil_append] at hwa
            have HQ := Lib.hid (And.intro hrow (And.intro hko (And.intro hF' hst)))
            clear hrow hko hF' hst
            have hst := hwa
            clear hwa
            refine ⟨_, rfl, fun _ => HQ.out.2.2.2.sub (.cons _ (.cons _ (.cons_cons _ (.cons_cons _ (.cons _ (.cons _ (.cons _ (List.Sublist.refl _)))))))), ?_⟩
            unfold tval
            go_frame
            refine at_e (by simp only [List.getElem?_toArray, List.getElem?_cons_succ, List.getElem?_cons_zero]; rfl) rfl ?_
            (refine EW hst ?_; clear hst; intro w hst; refine ⟨?_, ?_⟩; rotate_left; go_frame)
            · unfold wpP
              go_wp2_with fail
              go_meet
              case rel =>
                obtain ⟨hrow, hko, hF', hs0⟩ := HQ.out
                have hH := Kd.hold2 (lo := w0.heap.size) (nb := []) (bs := [b3, b2, b1, b0]) hst (in_bs (bs := [b3, b2, b1, b0])) (by simp)
                exact ⟨b3, hK, pK, cK, oidA, nA, capA, xsA, spA, rfl, Lib.hid ⟨by omega, hko, hrow.hold hH, hF'.gr, hF'.strs, hF'.most⟩, Lib.hid (hs0.unwatch hst (hs0.lo (bs := [b3, b2, b1, b0]) (by (repeat' (first | exact List.Mem.head _ | apply List.Mem.tail)); done) (by simp; omega)))⟩
            · intro h; cases h
        case rest =>
          clear hst
          obtain ⟨b3, hK, pK, cK, oidA, nA, capA, xsA, spA, rfl, HQ, HS⟩ := hcut
          have hst := HS.out
          clear HS
          have hlo0 := HQ.out.1
          obtain ⟨x2, kk2, hg2⟩ := F.get_lt (f := k) (i := m + 1) (by omega)
          obtain ⟨pb, po, q, capq, tq, rfl, hcap, hslq, hlt, -, hcc⟩ := Sl.at2 HA.out.2.2.2.1 hg2
          have HCC := Lib.hid (And.intro hcap (And.intro hslq (And.intro hlt hcc)))
          have HX2 := Lib.hid hg2
          clear hcap hslq hlt hcc hg2
          have hmk : m + 1 < k.len := by omega
          have hxin := (F.all_get HA.out.2.2.1.2 HX2.out)
          have HXI := Lib.hid (And.intro hxin.1.1 (And.intro hxin.1.2 hxin.2))
          clear hxin
          have hkin : FIn kk2 := ⟨HXI.out.2.1, HXI.out.2.2⟩
          have HKI := Lib.hid hkin
          clear hkin
          go_upto_region 10 with fail
          refine wp_plan (fun w => St B [65, 9] w0 w [(some b3, [.int .i64 hK.kind, .string hK.v, .string hK.a, .string hK.t, .int .i64 hK.st, .slice pK 0 cK], 24), (some b1, [.int .i64 h.kind, .string h.v, .string h.a, .string h.t, .int .i64 h.st, .slice (some ⟨pb, po, none⟩) k.len c], 24), (some b0, [.int .i64 3, .string ByteArray.empty, .string a, .string tg, .int .i64 st2, .slice (slP oid2) m cap2], 24)]) [0, 1, 2, 3, 4, 5, 6, 7, 8, 9, 10, 11, 12, 13, 14] (.q 0 (.q 1 (.q 2 (.q 3 (.q 4 (.q 5 (.q 6 (.q 7 (.q 8 (.q 9 (.q 10 (.q 11 (.q 12 (.q 13 (.q 14 (.e 15 true (.e 16 true (.e 17 true (.e 18 false (.e 19 false (.fin))))))))))))))))))))) mixed (by kernel_rfl) (by kernel_rfl) (by kernel_rfl) (fun d v c a w h => by cases d <;> exact h) (hst.drew.sub (.cons_cons _ (.cons _ (.cons_cons _ (.cons_cons _ (.cons _ (.cons _ (.cons _ (List.Sublist.refl _))))))))) ?_
          replace hst := hst.drew
          repeat ((refine AQ ?_); first | (refine Q1 ?_; go_frame) | (refine QW ?_; go_frame) | (refine QV ?_; go_frame))
          (refine AQ ?_)
          refine q_val rfl (v := .pointer (some ⟨pb, po + (m + 1) * TS.n, none⟩)) ?_ ?_
          · intro w' hS
            go_simp
            rw [show IntKind.i64.wrap ((m : Int) + 1) = ((m + 1 : Nat) : Int) from (IntWalk.i64_in _ (by omega)).trans (by omega), if_pos (by omega)]
            rfl
          go_frame
          (refine AQ ?_)
          refine p_ldc (vs := [.int .i64 x2.kind, .string x2.v, .string x2.a, .string x2.t, .int .i64 x2.st, .slice q kk2.len capq]) (fun w hS j v hv => ?_) rfl rfl rfl (by exact agg_of rfl rfl) ?_
          · have h1 := HCC.out.2.2.2 j v hv
            have h2 := hS.kp.low pb HCC.out.2.2.1
            simp only [World.cell?] at h1 ⊢
            rw [h2]
            exact h1
          go_frame
          repeat ((refine AQ ?_); first | (refine Q1 ?_; go_frame) | (refine QW ?_; go_frame) | (refine QV ?_; go_frame))
          refine at_e (by simp only [List.getElem?_toArray, List.getElem?_cons_succ, List.getElem?_cons_zero]; rfl) rfl ?_
          refine e_call (by go_simp; first | rfl | exact ⟨rfl, IntWalk.i64_in _ (by omega)⟩) (HA.out.2.2.2.2 x2 kk2 (F.size_get HX2.out) M B fb (left' - 1) oidA nA capA xsA spA (level + 1) (st2 == 2) q capq _ ⟨hst.rebase (L' := [_, _]) (.cons _ (.cons _ (.cons _ (.cons _ (.cons _ (List.Sublist.refl _)))))) rfl, HQ.out.2.2.2.1, HQ.out.2.2.2.2.1, HQ.out.2.2.2.2.2, HA.out.1.mle⟩ (by omega) (by omega) (by omega) (by omega) HXI.out.1 HKI.out HCC.out.1 (Sl.hold (Hold.kp hst.kp fun b t h => ⟨.inl h, h⟩) HCC.out.2.1)) ?_
          rintro e w1 ⟨h', k', p', c', left2, oidB, nB, capB, xsB, spB, rfl, hsl, hcc, hok, h0, hsz, hF', -⟩
          have hsl2 := hsl.hold (Kd.new (bs := [b3, b2, b1, b0]) (oid := oid2) hst ⟨_, rfl⟩)
          have hrow := HQ.out.2.2.1.hold (Hold.drew.trans (Kd.call hF'.st.kp))
          replace hst := St.after (L1 := [_, _, _, _, _]) hst hF'.st rfl rfl (fun _ h => h)
          simp only [List.cons_append, List.nil_append] at hst
          have hwa := St.watchP (L1 := [_, _, _, _, _]) (L2 := [_, _]) hst (bs := [b3, b2, b1, b0] ++ oid2.toList) (by cases oid2 <;> rfl) rfl
          simp only [List.cons_append, List.nil_append] at hwa
          have hinv : ∀ w L, St B ⟨[65, 9], [b3, b2, b1, b0] ++ oid2.toList⟩ w1 w L → St B [65, 9] w0 w L := fun w L h => hst.unwatch h (hst.lo (bs := [b3, b2, b1, b0]) (by (repeat' (first | exact List.Mem.head _ | apply List.Mem.tail)); done) (by simp; omega))
          have HQ2 := Lib.hid (And.intro hsl2 (And.intro hrow (And.intro hcc (And.intro hok (And.intro h0 (And.intro hsz (And.intro hF' hinv)))))))
          clear hsl hsl2 hrow hcc hok h0 hsz hF' hst hinv
          have hst := hwa.perm (List.perm_append_comm (l₁ := [_, _, _, _]) (l₂ := [_])|>.append_right [_, _])
          simp only [List.cons_append, List.nil_append] at hst
          clear hwa
          refine ⟨_, rfl, fun _ => (HQ2.out.2.2.2.2.2.2.2 _ _ hst).sub (.cons _ (.cons_cons _ (.cons _ (.cons_cons _ (.cons_cons _ (.cons _ (.cons _ (List.Sublist.refl _)))))))), ?_⟩
          unfold tval
          go_frame
          refine at_e (by simp only [List.getElem?_toArray, List.getElem?_cons_succ, List.getElem?_cons_zero]; rfl) rfl ?_
          refine p_newS hst (by go_simp; first | rfl | exact ⟨⟨rfl, rfl⟩, rfl⟩) ?_
          clear hst
          intro b4 w hb4 hst
          refine ⟨fun _ => (HQ2.out.2.2.2.2.2.2.2 _ _ hst).sub (.cons _ (.cons _ (.cons_cons _ (.cons _ (.cons_cons _ (.cons_cons _ (.cons _ (.cons _ (List.Sublist.refl _))))))))), ?_⟩
          go_frame
          refine at_e (by simp only [List.getElem?_toArray, List.getElem?_cons_succ, List.getElem?_cons_zero]; rfl) rfl ?_
          refine p_appH hst rfl rfl rfl (by first | exact el213 | exact el22 | exact el28 | exact el29 | exact el48 | exact el52 | exact el134 | exact el146 | exact el205) HI.out.gr (by decide) (by decide) rfl rfl (by omega) (by simp only [maxLen]; omega) ?_
          clear hst
          intro oid3 cap3 sp3 w hst hgr3 hno
          refine ⟨fun _ => (HQ2.out.2.2.2.2.2.2.2 _ _ hst).sub (.cons _ (.cons_cons _ (.cons _ (.cons_cons _ (.cons_cons _ (.cons _ (.cons _ (List.Sublist.refl _)))))))), ?_⟩
          go_frame
          refine at_e (by simp only [List.getElem?_toArray, List.getElem?_cons_succ, List.getElem?_cons_zero]; rfl) rfl ?_
          refine e_val (by go_simp; first | rfl | exact ⟨rfl, rfl⟩) (fun h => by cases h) ?_
          go_frame
          refine at_e (by simp only [List.getElem?_toArray, List.getElem?_cons_succ, List.getElem?_cons_zero]; rfl) rfl ?_
          (refine E1 hst ?_; clear hst; intro w hst; refine ⟨?_, ?_⟩; rotate_left; go_frame)
          · unfold wpP
            go_wp2_with fail
            go_round
            case rel =>
              obtain ⟨hsl, hrow, hcc, hok, h0, hsz, hF', hinv⟩ := HQ2.out
              obtain ⟨hlo1, hko, -, -, -, -⟩ := HQ.out
              have hH := Kd.hold (lo := w0.heap.size) (lo' := w0.heap.size) (bs := [b3, b2, b1, b0]) (oid := oid2) (oid3 := oid3) hst (by (repeat' (first | exact List.Mem.head _ | apply List.Mem.tail)); done) (in_bs (bs := [b3, b2, b1, b0])) (Nat.le_refl _)
              have hl2 : xs2.length = fo.len * 6 := by rw [HI.out.gr.len, HI.out.len]
              have hrow1 : Row TS (Kd w0.heap.size [b3, b2, b1, b0] oid3) w ((xs2 ++ [.int .i64 hK.kind, .string hK.v, .string hK.a, .string hK.t, .int .i64 hK.st, .slice pK 0 cK]) ++ sp3) (fo.snoc hK .nil) := Row.snoc (h := hK) (k := .nil) (p := pK) (cap := cK) (hrow.hold hH) hl2 sp3 (Nat.zero_le _) (.inl rfl)
              have hrow2 : Row TS (Kd w0.heap.size [b3, b2, b1, b0] oid3) w (((xs2 ++ [.int .i64 hK.kind, .string hK.v, .string hK.a, .string hK.t, .int .i64 hK.st, .slice pK 0 cK]) ++ [.int .i64 h'.kind, .string h'.v, .string h'.a, .string h'.t, .int .i64 h'.st, .slice p' k'.len c']) ++ sp3) ((fo.snoc hK .nil).snoc h' k') := Row.snoc (h := h') hrow1 (by simp [hl2, F.len_snoc, TS]; omega) sp3 hcc (hsl.hold hH)
              rw [List.append_assoc xs2] at hrow2
              simp only [List.cons_append, List.nil_append] at hrow2
              have hrow3 := hrow2.hold (Kd.less (bs' := [b2, b1, b0]) (by simp))
              refine ⟨m + 2, by rw [show (m : Int) + stp = ((m + 2 : Nat) : Int) by omega], (fo.snoc hK .nil).snoc h' k', oid3, cap3, _, sp3, left2, oidB, nB, capB, xsB, spB, Lib.hid ⟨by rw [F.len_snoc, F.len_snoc, HI.out.len], by omega, hgr3, hrow3, F.all_snoc' (F.all_snoc' HI.out.all hko.node trivial) hok.1 hok.2, fun _ => PairsOK.snoc2 hko (HI.out.pairs rfl), h0, by rw [F.size_snoc, F.size_snoc]; have := HI.out.size; simp only [F.size]; omega, hF'.gr, hF'.strs, hF'.most⟩, Lib.hid ?_⟩
              have h1 := ((hinv _ _ hst).sub (.cons_cons _ (.cons _ (List.Sublist.refl _)))).perm ((List.perm_append_comm (l₁ := [_]) (l₂ := [_, _, _])).append_right [_, _])
              exact h1
            case measure => simp [intOf]; omega
          · intro h; cases h
end Go.Proofs.YtpajcfkldnbpfaaGreatDoor
