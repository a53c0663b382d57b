/- One step of the fitter: its tree, given its collections. -/
import Derived.Test.YtpajcfkldnbpfaaGreatDoorV05
import Derived.IntWalk
set_option linter.unusedSimpArgs false
set_option linter.unusedVariables false
namespace Go.Proofs.YtpajcfkldnbpfaaGreatDoor
open Go.RowKit
def mk (k : Int) : Int := 1 + (k % 4 - 1) % 4
def AliasP (kd : Int) (n : Nat) (b : Bool) : Prop := b = true → kd = 4 ∧ 0 < n
def LowP (kd level : Int) (b : Bool) : Prop := b = false → kd ≠ 4 ∧ (kd ≠ 1 → level ≤ 4)
theorem mk_cases (k : Int) : mk k = 1 ∨ mk k = 2 ∨ mk k = 3 ∨ mk k = 4 := by unfold mk; omega
set_option maxRecDepth 100000 in
set_option maxHeartbeats 2000000 in
theorem tree_step (h : TH) (k : F TH) (hC : CollC k) : TreeC h k := by
  intro M B fb left oid n cap xs sp level flow p c w0 hF hl hl2 hv1 hv2 hi hk hc hs
  unfold tval
  have hst := hF.st
  have HA := Lib.hid (And.intro hF (And.intro hi (And.intro hk hs)))
  have HC := Lib.hid hC
  clear hC
  clear hF hi hk hs
  go_enter Tryz.func24, Tryz.ntmps24
  go_upto_region 2 with ((first | ((with_reducible refine at_load ?_); first | refine X1 hst ?_ | refine XW hst ?_) | ((with_reducible refine at_store ?_); (first | refine Y1 hst ?_ | refine YW hst ?_); clear hst; intro w hst) | ((first | ((with_reducible refine at_alloc ?_); refine ZP hst ?_) | ((with_reducible refine at_box ?_); refine ZP hst ?_) | ((with_reducible refine at_bslice ?_); refine ZS hst ?_)); clear hst; (first | ((fail_if_success have := b0); intro b0 w hb0 hst) | ((fail_if_success have := b1); intro b1 w hb1 hst) | ((fail_if_success have := b2); intro b2 w hb2 hst) | ((fail_if_success have := b3); intro b3 w hb3 hst) | (intro b4 w hb4 hst)))))
  go_frame
  go_wp2_with ((first | ((with_reducible refine at_load ?_); first | refine X1 hst ?_ | refine XW hst ?_) | ((with_reducible refine at_store ?_); (first | refine Y1 hst ?_ | refine YW hst ?_); clear hst; intro w hst) | ((first | ((with_reducible refine at_alloc ?_); refine ZP hst ?_) | ((with_reducible refine at_box ?_); refine ZP hst ?_) | ((with_reducible refine at_bslice ?_); refine ZS hst ?_)); clear hst; (first | ((fail_if_success have := b0); intro b0 w hb0 hst) | ((fail_if_success have := b1); intro b1 w hb1 hst) | ((fail_if_success have := b2); intro b2 w hb2 hst) | ((fail_if_success have := b3); intro b3 w hb3 hst) | (intro b4 w hb4 hst)))))
  refine (modulo_any _ _ _ (by decide) (by decide)).mono ?_
  rintro e w' ⟨rfl, rfl⟩
  go_wp2_with ((first | ((with_reducible refine at_load ?_); first | refine X1 hst ?_ | refine XW hst ?_) | ((with_reducible refine at_store ?_); (first | refine Y1 hst ?_ | refine YW hst ?_); clear hst; intro w hst) | ((first | ((with_reducible refine at_alloc ?_); refine ZP hst ?_) | ((with_reducible refine at_box ?_); refine ZP hst ?_) | ((with_reducible refine at_bslice ?_); refine ZS hst ?_)); clear hst; (first | ((fail_if_success have := b0); intro b0 w hb0 hst) | ((fail_if_success have := b1); intro b1 w hb1 hst) | ((fail_if_success have := b2); intro b2 w hb2 hst) | ((fail_if_success have := b3); intro b3 w hb3 hst) | (intro b4 w hb4 hst)))))
  refine (modulo_any _ _ _ (by decide) (by decide)).mono ?_
  rintro e w' ⟨rfl, rfl⟩
  go_upto_region 3 with ((first | ((with_reducible refine at_load ?_); first | refine X1 hst ?_ | refine XW hst ?_) | ((with_reducible refine at_store ?_); (first | refine Y1 hst ?_ | refine YW hst ?_); clear hst; intro w hst) | ((first | ((with_reducible refine at_alloc ?_); refine ZP hst ?_) | ((with_reducible refine at_box ?_); refine ZP hst ?_) | ((with_reducible refine at_bslice ?_); refine ZS hst ?_)); clear hst; (first | ((fail_if_success have := b0); intro b0 w hb0 hst) | ((fail_if_success have := b1); intro b1 w hb1 hst) | ((fail_if_success have := b2); intro b2 w hb2 hst) | ((fail_if_success have := b3); intro b3 w hb3 hst) | (intro b4 w hb4 hst)))))
  go_frame
  generalize hkd : (1 + (h.kind - 1) % 4) = kd at hst ⊢
  have hkd4 : 1 ≤ kd ∧ kd ≤ 4 := by omega
  have hkd1 : h.kind % 4 = 1 → kd = 1 := by omega
  have HKD := Lib.hid (And.intro hkd4 hkd1)
  clear hkd hkd4 hkd1
  go_cut [38] (fun y wx => w = wx ∧ ∃ b : Bool, y = .bool b ∧ AliasP kd n b)
  case first =>
    have hbw := Lib.hid (hst.heap (b := fb) (by (repeat' (first | exact List.Mem.head _ | apply List.Mem.tail)); done))
    have f2 := hst.cell (b := fb) (off := 2) (by (repeat' (first | exact List.Mem.head _ | apply List.Mem.tail)); done) rfl
    by_cases h4 : kd = 4
    · subst h4
      by_cases hn : 0 < n
      · go_wp2_with (first | (go_at_call 43; refine (has_any _ fb _ _ _ hbw.out (by omega)).mono ?_; rintro e w' ⟨rfl, rfl⟩) | (first | ((with_reducible refine at_load ?_); first | refine X1 hst ?_ | refine XW hst ?_) | ((with_reducible refine at_store ?_); (first | refine Y1 hst ?_ | refine YW hst ?_); clear hst; intro w hst) | ((first | ((with_reducible refine at_alloc ?_); refine ZP hst ?_) | ((with_reducible refine at_box ?_); refine ZP hst ?_) | ((with_reducible refine at_bslice ?_); refine ZS hst ?_)); clear hst; (first | ((fail_if_success have := b0); intro b0 w hb0 hst) | ((fail_if_success have := b1); intro b1 w hb1 hst) | ((fail_if_success have := b2); intro b2 w hb2 hst) | ((fail_if_success have := b3); intro b3 w hb3 hst) | (intro b4 w hb4 hst)))))
        go_meet
        case rel => exact ⟨rfl, _, rfl, fun _ => ⟨rfl, hn⟩⟩
      · obtain rfl : n = 0 := by omega
        go_wp2_with (first | (go_at_call 43; refine (has_any _ fb _ _ _ hbw.out (by omega)).mono ?_; rintro e w' ⟨rfl, rfl⟩) | (first | ((with_reducible refine at_load ?_); first | refine X1 hst ?_ | refine XW hst ?_) | ((with_reducible refine at_store ?_); (first | refine Y1 hst ?_ | refine YW hst ?_); clear hst; intro w hst) | ((first | ((with_reducible refine at_alloc ?_); refine ZP hst ?_) | ((with_reducible refine at_box ?_); refine ZP hst ?_) | ((with_reducible refine at_bslice ?_); refine ZS hst ?_)); clear hst; (first | ((fail_if_success have := b0); intro b0 w hb0 hst) | ((fail_if_success have := b1); intro b1 w hb1 hst) | ((fail_if_success have := b2); intro b2 w hb2 hst) | ((fail_if_success have := b3); intro b3 w hb3 hst) | (intro b4 w hb4 hst)))))
        go_meet
        case rel => exact ⟨rfl, _, rfl, fun h => by simp at h⟩
    · have h4' : (kd == 4) = false := by simpa using h4
      go_wp2_with (first | (go_at_call 43; refine (has_any _ fb _ _ _ hbw.out (by omega)).mono ?_; rintro e w' ⟨rfl, rfl⟩) | (first | ((with_reducible refine at_load ?_); first | refine X1 hst ?_ | refine XW hst ?_) | ((with_reducible refine at_store ?_); (first | refine Y1 hst ?_ | refine YW hst ?_); clear hst; intro w hst) | ((first | ((with_reducible refine at_alloc ?_); refine ZP hst ?_) | ((with_reducible refine at_box ?_); refine ZP hst ?_) | ((with_reducible refine at_bslice ?_); refine ZS hst ?_)); clear hst; (first | ((fail_if_success have := b0); intro b0 w hb0 hst) | ((fail_if_success have := b1); intro b1 w hb1 hst) | ((fail_if_success have := b2); intro b2 w hb2 hst) | ((fail_if_success have := b3); intro b3 w hb3 hst) | (intro b4 w hb4 hst)))))
      go_meet
      case rel => exact ⟨rfl, _, rfl, fun h => by simp at h⟩
  case rest =>
  obtain ⟨rfl, b, rfl, HB⟩ := hcut
  cases b
  · clear HB
    go_upto_region 6 with fail
    go_cut [71] (fun y wx => w = wx ∧ ∃ b : Bool, y = .bool b ∧ LowP kd level b)
    case first =>
      have c0 := hst.cell (b := b2) (off := 0) (by (repeat' (first | exact List.Mem.head _ | apply List.Mem.tail)); done) rfl
      have hkd4 := HKD.out.1
      by_cases h4 : kd = 4
      · subst h4
        go_wp2_with ((first | ((with_reducible refine at_load ?_); first | refine X1 hst ?_ | refine XW hst ?_) | ((with_reducible refine at_store ?_); (first | refine Y1 hst ?_ | refine YW hst ?_); clear hst; intro w hst) | ((first | ((with_reducible refine at_alloc ?_); refine ZP hst ?_) | ((with_reducible refine at_box ?_); refine ZP hst ?_) | ((with_reducible refine at_bslice ?_); refine ZS hst ?_)); clear hst; (first | ((fail_if_success have := b0); intro b0 w hb0 hst) | ((fail_if_success have := b1); intro b1 w hb1 hst) | ((fail_if_success have := b2); intro b2 w hb2 hst) | ((fail_if_success have := b3); intro b3 w hb3 hst) | (intro b4 w hb4 hst)))))
        go_meet
        case rel => exact ⟨rfl, _, rfl, fun h => by simp at h⟩
      · have h4' : (kd == 4) = false := by simpa using h4
        by_cases h1 : kd = 1
        · subst h1
          go_wp2_with ((first | ((with_reducible refine at_load ?_); first | refine X1 hst ?_ | refine XW hst ?_) | ((with_reducible refine at_store ?_); (first | refine Y1 hst ?_ | refine YW hst ?_); clear hst; intro w hst) | ((first | ((with_reducible refine at_alloc ?_); refine ZP hst ?_) | ((with_reducible refine at_box ?_); refine ZP hst ?_) | ((with_reducible refine at_bslice ?_); refine ZS hst ?_)); clear hst; (first | ((fail_if_success have := b0); intro b0 w hb0 hst) | ((fail_if_success have := b1); intro b1 w hb1 hst) | ((fail_if_success have := b2); intro b2 w hb2 hst) | ((fail_if_success have := b3); intro b3 w hb3 hst) | (intro b4 w hb4 hst)))))
          go_meet
          case rel => exact ⟨rfl, _, rfl, fun _ => ⟨h4, fun h => absurd rfl h⟩⟩
        · have h1' : (kd != 1) = true := by simpa using h1
          by_cases h5 : 5 ≤ level
          · go_wp2_with ((first | ((with_reducible refine at_load ?_); first | refine X1 hst ?_ | refine XW hst ?_) | ((with_reducible refine at_store ?_); (first | refine Y1 hst ?_ | refine YW hst ?_); clear hst; intro w hst) | ((first | ((with_reducible refine at_alloc ?_); refine ZP hst ?_) | ((with_reducible refine at_box ?_); refine ZP hst ?_) | ((with_reducible refine at_bslice ?_); refine ZS hst ?_)); clear hst; (first | ((fail_if_success have := b0); intro b0 w hb0 hst) | ((fail_if_success have := b1); intro b1 w hb1 hst) | ((fail_if_success have := b2); intro b2 w hb2 hst) | ((fail_if_success have := b3); intro b3 w hb3 hst) | (intro b4 w hb4 hst)))))
            go_meet
            case rel => exact ⟨rfl, _, rfl, fun h => by simp at h⟩
          · go_wp2_with ((first | ((with_reducible refine at_load ?_); first | refine X1 hst ?_ | refine XW hst ?_) | ((with_reducible refine at_store ?_); (first | refine Y1 hst ?_ | refine YW hst ?_); clear hst; intro w hst) | ((first | ((with_reducible refine at_alloc ?_); refine ZP hst ?_) | ((with_reducible refine at_box ?_); refine ZP hst ?_) | ((with_reducible refine at_bslice ?_); refine ZS hst ?_)); clear hst; (first | ((fail_if_success have := b0); intro b0 w hb0 hst) | ((fail_if_success have := b1); intro b1 w hb1 hst) | ((fail_if_success have := b2); intro b2 w hb2 hst) | ((fail_if_success have := b3); intro b3 w hb3 hst) | (intro b4 w hb4 hst)))))
            go_meet
            case rel => exact ⟨rfl, _, rfl, fun _ => ⟨h4, fun _ => by omega⟩⟩
    case rest =>
    obtain ⟨rfl, b, rfl, HB⟩ := hcut
    go_upto_if 71 with fail
    go_cut [0] (fun y wx => y = .pointer (some ⟨fb, 0, none⟩) ∧ ∃ kd2 : Int, Hid ((kd2 = 1 ∨ ((kd2 = 2 ∨ kd2 = 3) ∧ level ≤ 4)) ∧ (h.kind % 4 = 1 → kd2 = 1)) ∧ St B [65, 9] w0 wx [(some b2, [.int .i64 kd2, .string ByteArray.empty, .string ByteArray.empty, .string ByteArray.empty, .int .i64 0, .slice none 0 0], 24), (some b1, [.int .i64 0, .string ⟨#[]⟩, .string ⟨#[]⟩, .string ⟨#[]⟩, .int .i64 0, .slice none 0 0], 24), (some b0, [.int .i64 h.kind, .string h.v, .string h.a, .string h.t, .int .i64 h.st, .slice p k.len c], 24), (some fb, [.int .i64 63, .int .i64 (left - 1), .slice (slP oid) n cap], 65), (oid, xs ++ sp, 9)])
    case first =>
      cases b
      · go_wp2_with ((first | ((with_reducible refine at_load ?_); first | refine X1 hst ?_ | refine XW hst ?_) | ((with_reducible refine at_store ?_); (first | refine Y1 hst ?_ | refine YW hst ?_); clear hst; intro w hst) | ((first | ((with_reducible refine at_alloc ?_); refine ZP hst ?_) | ((with_reducible refine at_box ?_); refine ZP hst ?_) | ((with_reducible refine at_bslice ?_); refine ZS hst ?_)); clear hst; (first | ((fail_if_success have := b0); intro b0 w hb0 hst) | ((fail_if_success have := b1); intro b1 w hb1 hst) | ((fail_if_success have := b2); intro b2 w hb2 hst) | ((fail_if_success have := b3); intro b3 w hb3 hst) | (intro b4 w hb4 hst)))))
        go_meet
        case rel => exact ⟨rfl, kd, Lib.hid ⟨by have := HB rfl; have := HKD.out.1; omega, HKD.out.2⟩, hst⟩
      · go_wp2_with ((first | ((with_reducible refine at_load ?_); first | refine X1 hst ?_ | refine XW hst ?_) | ((with_reducible refine at_store ?_); (first | refine Y1 hst ?_ | refine YW hst ?_); clear hst; intro w hst) | ((first | ((with_reducible refine at_alloc ?_); refine ZP hst ?_) | ((with_reducible refine at_box ?_); refine ZP hst ?_) | ((with_reducible refine at_bslice ?_); refine ZS hst ?_)); clear hst; (first | ((fail_if_success have := b0); intro b0 w hb0 hst) | ((fail_if_success have := b1); intro b1 w hb1 hst) | ((fail_if_success have := b2); intro b2 w hb2 hst) | ((fail_if_success have := b3); intro b3 w hb3 hst) | (intro b4 w hb4 hst)))))
        go_meet
        case rel => exact ⟨rfl, 1, Lib.hid ⟨.inl rfl, fun _ => rfl⟩, hst⟩
    case rest =>
    clear hst HB HKD
    obtain ⟨rfl, kd2, HK, hst⟩ := hcut
    have hbw := Lib.hid (hst.heap (b := fb) (by (repeat' (first | exact List.Mem.head _ | apply List.Mem.tail)); done))
    go_wp2_with (first | (go_at_call 43; refine (has_any _ fb _ _ _ hbw.out (by omega)).mono ?_; rintro e w' ⟨rfl, rfl⟩) | (first | ((with_reducible refine at_load ?_); first | refine X1 hst ?_ | refine XW hst ?_) | ((with_reducible refine at_store ?_); (first | refine Y1 hst ?_ | refine YW hst ?_); clear hst; intro w hst) | ((first | ((with_reducible refine at_alloc ?_); refine ZP hst ?_) | ((with_reducible refine at_box ?_); refine ZP hst ?_) | ((with_reducible refine at_bslice ?_); refine ZS hst ?_)); clear hst; (first | ((fail_if_success have := b0); intro b0 w hb0 hst) | ((fail_if_success have := b1); intro b1 w hb1 hst) | ((fail_if_success have := b2); intro b2 w hb2 hst) | ((fail_if_success have := b3); intro b3 w hb3 hst) | (intro b4 w hb4 hst)))))
    refine (wrName_any _ _ (by have := HA.out.2.1; unfold TIn at this; unfold maxLen; omega)).mono ?_
    rintro e w1 ⟨a, ha, rfl, hb⟩
    replace hst := hst.below hb
    have Ha := Lib.hid ha
    clear hb ha hbw
    go_wp2_with ((first | ((with_reducible refine at_load ?_); first | refine X1 hst ?_ | refine XW hst ?_) | ((with_reducible refine at_store ?_); (first | refine Y1 hst ?_ | refine YW hst ?_); clear hst; intro w hst) | ((first | ((with_reducible refine at_alloc ?_); refine ZP hst ?_) | ((with_reducible refine at_box ?_); refine ZP hst ?_) | ((with_reducible refine at_bslice ?_); refine ZS hst ?_)); clear hst; (first | ((fail_if_success have := b0); intro b0 w hb0 hst) | ((fail_if_success have := b1); intro b1 w hb1 hst) | ((fail_if_success have := b2); intro b2 w hb2 hst) | ((fail_if_success have := b3); intro b3 w hb3 hst) | (intro b4 w hb4 hst)))))
    refine (tag_any _ _ fb _ _ _ (by have := HA.out.2.1; unfold TIn at this; unfold maxLen; omega) (hst.heap (b := fb) (by (repeat' (first | exact List.Mem.head _ | apply List.Mem.tail)); done))).mono ?_
    rintro e w1 ⟨tg, ht, rfl, hb⟩
    replace hst := hst.below hb
    have Ht := Lib.hid ht
    clear hb ht
    go_upto_region 11 with ((first | ((with_reducible refine at_load ?_); first | refine X1 hst ?_ | refine XW hst ?_) | ((with_reducible refine at_store ?_); (first | refine Y1 hst ?_ | refine YW hst ?_); clear hst; intro w hst) | ((first | ((with_reducible refine at_alloc ?_); refine ZP hst ?_) | ((with_reducible refine at_box ?_); refine ZP hst ?_) | ((with_reducible refine at_bslice ?_); refine ZS hst ?_)); clear hst; (first | ((fail_if_success have := b0); intro b0 w hb0 hst) | ((fail_if_success have := b1); intro b1 w hb1 hst) | ((fail_if_success have := b2); intro b2 w hb2 hst) | ((fail_if_success have := b3); intro b3 w hb3 hst) | (intro b4 w hb4 hst)))))
    go_frame
    generalize hbk : (kd2 == 1) = bk
    have HBK := Lib.hid hbk
    clear hbk
    go_upto_if 88 with ((first | ((with_reducible refine at_load ?_); first | refine X1 hst ?_ | refine XW hst ?_) | ((with_reducible refine at_store ?_); (first | refine Y1 hst ?_ | refine YW hst ?_); clear hst; intro w hst) | ((first | ((with_reducible refine at_alloc ?_); refine ZP hst ?_) | ((with_reducible refine at_box ?_); refine ZP hst ?_) | ((with_reducible refine at_bslice ?_); refine ZS hst ?_)); clear hst; (first | ((fail_if_success have := b0); intro b0 w hb0 hst) | ((fail_if_success have := b1); intro b1 w hb1 hst) | ((fail_if_success have := b2); intro b2 w hb2 hst) | ((fail_if_success have := b3); intro b3 w hb3 hst) | (intro b4 w hb4 hst)))))
    go_cut [0] (fun y wx => y = .pointer (some ⟨fb, 0, none⟩) ∧ ∃ (h' : TH) (k' : F TH) (p' : Option Addr) (c' : Nat) (left' : Int) (oid' : Option Nat) (n' cap' : Nat) (xs' sp' : List Value), Hid (Sl TS (NewB w0.heap.size [b2, b1, b0]) wx p' k' ∧ k'.len ≤ c' ∧ TreeOK h' k' ∧ 0 ≤ left' ∧ (k'.size : Int) + 1 ≤ left - left' ∧ Gr 1 oid' n' cap' xs' sp' ∧ (∀ v ∈ xs', ∃ s : ByteArray, v = .string s ∧ s.size ≤ 8) ∧ (n' : Int) + left' ≤ M - 1 ∧ (h.kind % 4 = 1 → Kid1 h' k' ∧ left' = left - 1 ∧ (h.a.size = 0 → h'.a.size = 0) ∧ (h.t.size = 0 → h'.t.size = 0))) ∧ St B [65, 9] w0 wx [(some b2, [.int .i64 h'.kind, .string h'.v, .string h'.a, .string h'.t, .int .i64 h'.st, .slice p' k'.len c'], 24), (some b1, [.int .i64 0, .string ⟨#[]⟩, .string ⟨#[]⟩, .string ⟨#[]⟩, .int .i64 0, .slice none 0 0], 24), (some b0, [.int .i64 h.kind, .string h.v, .string h.a, .string h.t, .int .i64 h.st, .slice p k.len c], 24), (some fb, [.int .i64 63, .int .i64 left', .slice (slP oid') n' cap'], 65), (oid', xs' ++ sp', 9)])
    case first =>
      rcases HK.out.1 with rfl | ⟨hk23, hlev⟩
      · obtain rfl : true = bk := HBK.out
        have hst5 : 0 ≤ h.st % 5 ∧ h.st % 5 < 5 := by omega
        have hst6 : 0 ≤ (h.st % 5 - 1) % 5 ∧ (h.st % 5 - 1) % 5 < 5 := by omega
        go_upto_region 12 with fail
        refine wp_plan (fun w => St B [65, 9] w0 w [(some b0, [.int .i64 h.kind, .string h.v, .string h.a, .string h.t, .int .i64 h.st, .slice p k.len c], 24)]) [0, 1, 2, 3, 5, 7, 8, 10] (.q 0 (.q 1 (.q 2 (.q 3 (.q 8 (.e 4 true (.q 5 (.e 6 true (.q 7 (.e 9 true (.q 10 (.e 11 false (.fin))))))))))))) mixed (by kernel_rfl) (by kernel_rfl) (by kernel_rfl) (fun d v c a w h => by cases d <;> exact h) (hst.drew.sub (.cons _ (.cons _ (.cons_cons _ (.cons _ (.cons _ (List.Sublist.refl _))))))) ?_
        replace hst := hst.drew
        repeat ((refine AQ ?_); first | (refine Q1 ?_; go_frame) | (refine QW ?_; go_frame) | (refine QV ?_; go_frame))
        refine at_e (by simp only [List.getElem?_toArray, List.getElem?_cons_succ, List.getElem?_cons_zero]; rfl) rfl ?_
        refine e_call (by go_simp; first | rfl | exact ⟨⟨rfl, rfl⟩, rfl⟩) (modulo_any _ _ _ (by decide) (by decide)) ?_
        rintro e w2 ⟨rfl, rfl⟩
        refine ⟨_, rfl, fun _ => hst.sub (.cons _ (.cons _ (.cons_cons _ (.cons _ (.cons _ (List.Sublist.refl _)))))), ?_⟩
        go_frame
        (refine AQ ?_)
        refine q_val rfl (v := .int .i64 (h.st % 5 - 1)) ?_ ?_
        · intro w' hS
          go_simp
          exact IntWalk.i64_in _ (by omega)
        go_frame
        refine at_e (by simp only [List.getElem?_toArray, List.getElem?_cons_succ, List.getElem?_cons_zero]; rfl) rfl ?_
        refine e_call (by go_simp; first | rfl | exact ⟨⟨rfl, rfl⟩, rfl⟩) (modulo_any _ _ _ (by decide) (by decide)) ?_
        rintro e w2 ⟨rfl, rfl⟩
        refine ⟨_, rfl, fun _ => hst.sub (.cons _ (.cons _ (.cons_cons _ (.cons _ (.cons _ (List.Sublist.refl _)))))), ?_⟩
        go_frame
        (refine AQ ?_)
        refine q_val rfl (v := .int .i64 (1 + (h.st % 5 - 1) % 5)) ?_ ?_
        · intro w' hS
          go_simp
          exact IntWalk.i64_in _ (by omega)
        go_frame
        refine at_e (by simp only [List.getElem?_toArray, List.getElem?_cons_succ, List.getElem?_cons_zero]; rfl) rfl ?_
        (refine E1 hst ?_; clear hst; intro w hst; refine ⟨?_, ?_⟩; rotate_left; go_frame)
        · repeat ((refine AQ ?_); first | (refine Q1 ?_; go_frame) | (refine QW ?_; go_frame) | (refine QV ?_; go_frame))
          refine at_e (by simp only [List.getElem?_toArray, List.getElem?_cons_succ, List.getElem?_cons_zero]; rfl) rfl ?_
          (refine E1 hst ?_; clear hst; intro w hst; refine ⟨?_, ?_⟩; rotate_left; go_frame)
          · unfold wpP
            go_wp2_with ((first | ((with_reducible refine at_load ?_); first | refine X1 hst ?_ | refine XW hst ?_) | ((with_reducible refine at_store ?_); (first | refine Y1 hst ?_ | refine YW hst ?_); clear hst; intro w hst) | ((first | ((with_reducible refine at_alloc ?_); refine ZP hst ?_) | ((with_reducible refine at_box ?_); refine ZP hst ?_) | ((with_reducible refine at_bslice ?_); refine ZS hst ?_)); clear hst; (first | ((fail_if_success have := b0); intro b0 w hb0 hst) | ((fail_if_success have := b1); intro b1 w hb1 hst) | ((fail_if_success have := b2); intro b2 w hb2 hst) | ((fail_if_success have := b3); intro b3 w hb3 hst) | (intro b4 w hb4 hst)))))
            refine (scalar_any h.v a tg _ flow fb _ _ _ (by have := HA.out.2.1; unfold TIn at this; unfold maxLen; omega) (by omega) (by omega) (hst.heap (b := fb) (by (repeat' (first | exact List.Mem.head _ | apply List.Mem.tail)); done))).mono ?_
            rintro e w1 ⟨v', a', t', st', rfl, hv40, hst1, hpl, ha', ht', hb⟩
            replace hst := hst.below hb
            have HQ := Lib.hid (And.intro hv40 (And.intro hst1 (And.intro hpl (And.intro ha' ht'))))
            clear hv40 hst1 hpl ha' ht' hb
            go_wp2_with ((first | ((with_reducible refine at_load ?_); first | refine X1 hst ?_ | refine XW hst ?_) | ((with_reducible refine at_store ?_); (first | refine Y1 hst ?_ | refine YW hst ?_); clear hst; intro w hst) | ((first | ((with_reducible refine at_alloc ?_); refine ZP hst ?_) | ((with_reducible refine at_box ?_); refine ZP hst ?_) | ((with_reducible refine at_bslice ?_); refine ZS hst ?_)); clear hst; (first | ((fail_if_success have := b0); intro b0 w hb0 hst) | ((fail_if_success have := b1); intro b1 w hb1 hst) | ((fail_if_success have := b2); intro b2 w hb2 hst) | ((fail_if_success have := b3); intro b3 w hb3 hst) | (intro b4 w hb4 hst)))))
            go_meet
            case rel =>
              refine ⟨rfl, ⟨1, v', a', t', st'⟩, .nil, none, 0, left - 1, oid, n, cap, xs, sp, Lib.hid ⟨.inl rfl, Nat.le_refl _, ?_, by omega, by simp [F.size]; omega, HA.out.1.gr, HA.out.1.strs, by have := HA.out.1.most; omega, fun _ => ⟨⟨rfl, rfl, HQ.out.2.1.1, HQ.out.2.1.2, HQ.out.1, HQ.out.2.2.1⟩, rfl, ?_, ?_⟩⟩, hst⟩
              · refine ⟨⟨?_, ?_, HQ.out.1, .inl ⟨rfl, rfl, HQ.out.2.1.1, HQ.out.2.1.2, HQ.out.1, HQ.out.2.2.1⟩⟩, trivial⟩
                · rcases HQ.out.2.2.2.1 with e | e
                  · rw [e]; exact Ha.out.1
                  · rw [e]; exact Nat.zero_le _
                · rcases HQ.out.2.2.2.2 with e | e
                  · rw [e]; exact Ht.out.1
                  · rw [e]; exact Nat.zero_le _
              · intro h0
                rcases HQ.out.2.2.2.1 with e | e
                · have := Ha.out.2; simp only [e]; omega
                · rw [e]; rfl
              · intro h0
                rcases HQ.out.2.2.2.2 with e | e
                · simp only [e]; exact Ht.out.2 h0
                · rw [e]; rfl
          · intro h; cases h
        · exact fun _ => hst.sub (.cons _ (.cons _ (.cons_cons _ (.cons _ (.cons _ (List.Sublist.refl _))))))
      · have hb : bk = false := by rw [← HBK.out]; rcases hk23 with rfl | rfl <;> rfl
        subst hb
        go_wp2_with ((first | ((with_reducible refine at_load ?_); first | refine X1 hst ?_ | refine XW hst ?_) | ((with_reducible refine at_store ?_); (first | refine Y1 hst ?_ | refine YW hst ?_); clear hst; intro w hst) | ((first | ((with_reducible refine at_alloc ?_); refine ZP hst ?_) | ((with_reducible refine at_box ?_); refine ZP hst ?_) | ((with_reducible refine at_bslice ?_); refine ZS hst ?_)); clear hst; (first | ((fail_if_success have := b0); intro b0 w hb0 hst) | ((fail_if_success have := b1); intro b1 w hb1 hst) | ((fail_if_success have := b2); intro b2 w hb2 hst) | ((fail_if_success have := b3); intro b3 w hb3 hst) | (intro b4 w hb4 hst)))))
        have hcall := HC.out (M - 1) B fb (left - 1) oid n cap xs sp level flow p c w h kd2 a tg ⟨hst.rebase (L' := [_, _]) (.cons _ (.cons _ (.cons _ (List.Sublist.refl _)))) rfl, HA.out.1.gr, HA.out.1.strs, by have := HA.out.1.most; omega, by have := HA.out.1.mle; omega⟩ (by omega) (by omega) hv1 hlev HA.out.2.1 HA.out.2.2.1 hc (Sl.hold (Hold.kp hst.kp fun b t h => ⟨.inl h, h⟩) HA.out.2.2.2) hk23
        refine Calls.mono hcall ?_
        clear hcall
        rintro e w1 ⟨st', tg', k', p', c', left', oid', n', cap', xs', sp', rfl, hsl, hcc, hpk, hall, htg, h0, hsz, hF'⟩
        have hlo := hst.kp.size
        have l0 := lt_of_heap (hst.heap (b := b0) (by (repeat' (first | exact List.Mem.head _ | apply List.Mem.tail)); done))
        have l1 := lt_of_heap (hst.heap (b := b1) (by (repeat' (first | exact List.Mem.head _ | apply List.Mem.tail)); done))
        have l2 := lt_of_heap (hst.heap (b := b2) (by (repeat' (first | exact List.Mem.head _ | apply List.Mem.tail)); done))
        replace hst := St.after (L1 := [_, _, _]) hst hF'.st rfl rfl (fun _ h => h)
        simp only [List.cons_append, List.nil_append] at hst
        have hwa := St.watchP (L1 := [_, _, _]) (L2 := [_, _]) hst (bs := [b2, b1, b0]) rfl rfl
        simp only [List.cons_append, List.nil_append] at hwa
        have HQ := Lib.hid (And.intro hsl (And.intro hcc (And.intro hpk (And.intro hall (And.intro htg (And.intro h0 (And.intro hsz (And.intro hF' (And.intro hst (And.intro hlo (And.intro l0 (And.intro l1 l2))))))))))))
        clear hsl hcc hpk hall htg h0 hsz hF' hlo hst l0 l1 l2
        have hst := hwa
        clear hwa
        go_wp2_with ((first | ((with_reducible refine at_load ?_); first | refine X1 hst ?_ | refine XW hst ?_) | ((with_reducible refine at_store ?_); (first | refine Y1 hst ?_ | refine YW hst ?_); clear hst; intro w hst) | ((first | ((with_reducible refine at_alloc ?_); refine ZP hst ?_) | ((with_reducible refine at_box ?_); refine ZP hst ?_) | ((with_reducible refine at_bslice ?_); refine ZS hst ?_)); clear hst; (first | ((fail_if_success have := b0); intro b0 w hb0 hst) | ((fail_if_success have := b1); intro b1 w hb1 hst) | ((fail_if_success have := b2); intro b2 w hb2 hst) | ((fail_if_success have := b3); intro b3 w hb3 hst) | (intro b4 w hb4 hst)))))
        go_meet
        case rel =>
          obtain ⟨hsl, hcc, hpk, hall, htg, h0, hsz, hF', hst1, hlo, l0, l1, l2⟩ := HQ.out
          refine ⟨rfl, ⟨kd2, ByteArray.empty, a, tg', st'⟩, k', p', c', left', oid', n', cap', xs', sp', Lib.hid ⟨?_, hcc, ?_, h0, by omega, hF'.gr, hF'.strs, hF'.most, fun h1 => absurd (HK.out.2 h1) (by rcases hk23 with rfl | rfl <;> decide)⟩, St.unwatch hst1 hst (by simp; omega)⟩
          · refine hsl.hold (Hold.kp hst.kp fun b t h => ?_)
            unfold New at h
            have hb : b ∉ [b2, b1, b0] := by simp; omega
            exact ⟨.inr ⟨by rw [h.2]; exact (by decide : 24 ∉ [65, 9]), hb⟩, ⟨by omega, h.2, hb⟩⟩
          · refine ⟨⟨Ha.out.1, ?_, Nat.zero_le _, ?_⟩, hall⟩
            · rcases htg with e | e
              · rw [e]; exact Ht.out.1
              · rw [e]; exact Nat.zero_le _
            · rcases hk23 with e | e
              · exact .inr (.inl e)
              · exact .inr (.inr (.inl ⟨e, hpk e⟩))
    case rest =>
      clear hst HK HBK Ha Ht
      obtain ⟨rfl, h', k', p', c', left', oid', n', cap', xs', sp', HR, hst⟩ := hcut
      have hwa := St.watchP (L1 := [_, _, _]) (L2 := [_, _]) hst (bs := [b2, b1, b0]) rfl rfl
      simp only [List.cons_append, List.nil_append] at hwa
      have HQ := Lib.hid hst
      clear hst
      have hst := hwa
      clear hwa
      go_upto_region 15 with (fail)
      have fin : ∀ (w : World) (oid2 : Option Nat) (n2 cap2 : Nat) (xs2 sp2 : List Value), St B ⟨[65, 9], [b2, b1, b0]⟩ wc w [(some b2, [.int .i64 h'.kind, .string h'.v, .string h'.a, .string h'.t, .int .i64 h'.st, .slice p' k'.len c'], 24), (some b1, [.int .i64 h'.kind, .string h'.v, .string h'.a, .string h'.t, .int .i64 h'.st, .slice p' k'.len c'], 24), (some b0, [.int .i64 h.kind, .string h.v, .string h.a, .string h.t, .int .i64 h.st, .slice p k.len c], 24), (some fb, [.int .i64 63, .int .i64 left', .slice (slP oid2) n2 cap2], 65), (oid2, xs2 ++ sp2, 9)] → Gr 1 oid2 n2 cap2 xs2 sp2 → (∀ v ∈ xs2, ∃ s : ByteArray, v = .string s ∧ s.size ≤ 8) → (n2 : Int) + left' ≤ M →
          TreeR h M B fb left w0 (.returned (.agg #[.int .i64 h'.kind, .string h'.v, .string h'.a, .string h'.t, .int .i64 h'.st, .slice p' k'.len c'])) w := by
        intro w oid2 n2 cap2 xs2 sp2 hst hgr hstr hm
        obtain ⟨hsl, hcc, hok, h0, hsz, -, -, -, hkey⟩ := HR.out
        refine ⟨h', k', p', c', left', oid2, n2, cap2, xs2, sp2, rfl, ?_, hcc, hok, h0, hsz, ⟨(St.unwatch HQ.out hst (by simp; omega)).sub (.cons _ (.cons _ (.cons _ (List.Sublist.refl _)))), hgr, hstr, hm, HA.out.1.mle⟩, hkey⟩
        exact hsl.hold (Hold.kp hst.kp fun b t h => ⟨.inr ⟨by rw [h.2.1]; exact (by decide : 24 ∉ [65, 9]), h.2.2⟩, ⟨h.1, h.2.1⟩⟩)
      have FIN := Lib.hid fin
      clear fin
      go_wp2_with ((first | ((with_reducible refine at_load ?_); first | refine X1 hst ?_ | refine XW hst ?_) | ((with_reducible refine at_store ?_); (first | refine Y1 hst ?_ | refine YW hst ?_); clear hst; intro w hst) | ((first | ((with_reducible refine at_alloc ?_); refine ZP hst ?_) | ((with_reducible refine at_box ?_); refine ZP hst ?_) | ((with_reducible refine at_bslice ?_); refine ZS hst ?_)); clear hst; (first | ((fail_if_success have := b0); intro b0 w hb0 hst) | ((fail_if_success have := b1); intro b1 w hb1 hst) | ((fail_if_success have := b2); intro b2 w hb2 hst) | ((fail_if_success have := b3); intro b3 w hb3 hst) | (intro b4 w hb4 hst)))))
      · have hgr := HR.out.2.2.2.2.2.1
        have hn30 : (n' : Int) ≤ 40 := by have := HR.out.2.2.2.2.2.2.2.1; have := HR.out.2.2.2.1; have := HA.out.1.mle; omega
        replace hst := hst.perm (List.perm_append_comm (l₁ := [_, _, _, _]) (l₂ := [_]))
        simp only [List.cons_append, List.nil_append] at hst
        refine wp_plan (fun w => St B ⟨[65, 9], [b2, b1, b0]⟩ wc w [(some b2, [.int .i64 h'.kind, .string h'.v, .string h'.a, .string h'.t, .int .i64 h'.st, .slice p' k'.len c'], 24), (some fb, [.int .i64 63, .int .i64 left', .slice (slP oid') n' cap'], 65)]) [0, 1, 2, 3, 4, 5, 6, 10] (.q 0 (.q 1 (.q 2 (.q 3 (.q 4 (.q 5 (.q 6 (.e 7 true (.e 8 true (.e 9 true (.q 10 (.e 11 false (.fin))))))))))))) mixed (by kernel_rfl) (by kernel_rfl) (by kernel_rfl) (fun d v c a w h => by cases d <;> exact h) (hst.drew.sub (.cons _ (.cons_cons _ (.cons _ (.cons _ (List.Sublist.refl _)))))) ?_
        replace hst := hst.drew
        repeat ((refine AQ ?_); first | (refine Q1 ?_; go_frame) | (refine QW ?_; go_frame) | (refine QV ?_; go_frame))
        refine at_e (by simp only [List.getElem?_toArray, List.getElem?_cons_succ, List.getElem?_cons_zero]; rfl) rfl ?_
        refine p_newS hst (by go_simp; first | rfl | exact ⟨⟨rfl, rfl⟩, rfl⟩) ?_
        clear hst
        intro b3 w hb3 hst
        refine ⟨fun _ => hst.sub (.cons _ (.cons _ (.cons_cons _ (.cons _ (.cons _ (List.Sublist.refl _)))))), ?_⟩
        go_frame
        refine at_e (by simp only [List.getElem?_toArray, List.getElem?_cons_succ, List.getElem?_cons_zero]; rfl) rfl ?_
        refine p_appH hst rfl rfl rfl (by first | exact el213 | exact el22 | exact el28 | exact el29 | exact el48 | exact el52 | exact el134 | exact el146 | exact el205) hgr (by decide) (by decide) rfl rfl (by omega) (by simp only [maxLen]; omega) ?_
        clear hst
        intro oid2 cap2 sp2 w hst hgr2 hno
        refine ⟨fun _ => hst.sub (.cons _ (.cons_cons _ (.cons _ (.cons _ (List.Sublist.refl _))))), ?_⟩
        go_frame
        refine at_e (by simp only [List.getElem?_toArray, List.getElem?_cons_succ, List.getElem?_cons_zero]; rfl) rfl ?_
        refine e_val (by go_simp; rfl) (fun _ => hst.sub (.cons _ (.cons_cons _ (.cons _ (.cons _ (List.Sublist.refl _)))))) ?_
        go_frame
        repeat ((refine AQ ?_); first | (refine Q1 ?_; go_frame) | (refine QW ?_; go_frame) | (refine QV ?_; go_frame))
        refine at_e (by simp only [List.getElem?_toArray, List.getElem?_cons_succ, List.getElem?_cons_zero]; rfl) rfl ?_
        (refine E1 hst ?_; clear hst; intro w hst; refine ⟨?_, ?_⟩; rotate_left; go_frame)
        · unfold wpP
          go_wp2_with ((first | ((with_reducible refine at_load ?_); first | refine X1 hst ?_ | refine XW hst ?_) | ((with_reducible refine at_store ?_); (first | refine Y1 hst ?_ | refine YW hst ?_); clear hst; intro w hst) | ((first | ((with_reducible refine at_alloc ?_); refine ZP hst ?_) | ((with_reducible refine at_box ?_); refine ZP hst ?_) | ((with_reducible refine at_bslice ?_); refine ZS hst ?_)); clear hst; (first | ((fail_if_success have := b0); intro b0 w hb0 hst) | ((fail_if_success have := b1); intro b1 w hb1 hst) | ((fail_if_success have := b2); intro b2 w hb2 hst) | ((fail_if_success have := b3); intro b3 w hb3 hst) | (intro b4 w hb4 hst)))))
          replace hst := hst.perm (List.perm_append_comm (l₁ := [_]) (l₂ := [_, _, _, _]))
          simp only [List.cons_append, List.nil_append] at hst
          refine ret_cell hst rfl rfl (by (repeat' (first | exact List.Mem.head _ | apply List.Mem.tail)); done) (by exact agg_of rfl rfl) rfl ?_
          refine FIN.out _ oid2 (n' + 1) cap2 _ sp2 hst hgr2 ?_ (by have := HR.out.2.2.2.2.2.2.2.1; omega)
          intro v hv
          rcases List.mem_append.1 hv with hv | hv
          · exact HR.out.2.2.2.2.2.2.1 v hv
          · simp only [List.mem_singleton] at hv
            exact ⟨h'.a, hv, HR.out.2.2.1.1.1⟩
        · intro h; cases h
      · refine ret_cell hst rfl rfl (by (repeat' (first | exact List.Mem.head _ | apply List.Mem.tail)); done) (by exact agg_of rfl rfl) rfl ?_
        exact FIN.out _ oid' n' cap' xs' sp' hst HR.out.2.2.2.2.2.1 HR.out.2.2.2.2.2.2.1 (by have := HR.out.2.2.2.2.2.2.2.1; omega)
  · obtain ⟨rfl, hn⟩ := HB rfl
    go_upto_region 4 with fail
    obtain ⟨g, rfl⟩ : ∃ g, oid = some g := by
      cases hoid : oid with
      | none =>
        have h1 := HA.out.1.gr.nil hoid
        have h2 := HA.out.1.gr.le
        omega
      | some g => exact ⟨g, rfl⟩
    have hwrap : IntKind.i64.wrap ((h.v.size : Int) + h.a.size) = (h.v.size : Int) + h.a.size := IntWalk.i64_in _ (by have := HA.out.2.1; unfold TIn at this; omega)
    obtain ⟨j, hj, hjn⟩ : ∃ j : Nat, ((h.v.size : Int) + h.a.size) % n = j ∧ j < n := by
      have h1 := Int.emod_nonneg ((h.v.size : Int) + h.a.size) (show (n : Int) ≠ 0 by omega)
      have h2 := Int.emod_lt_of_pos ((h.v.size : Int) + h.a.size) (show (0 : Int) < n by omega)
      exact ⟨(((h.v.size : Int) + h.a.size) % n).toNat, by omega, by omega⟩
    obtain ⟨s, hs, hs8⟩ : ∃ s : ByteArray, (xs ++ sp)[j]? = some (.string s) ∧ s.size ≤ 8 := by
      have hlt : j < xs.length := by have := HA.out.1.gr.len; omega
      obtain ⟨s, h1, h2⟩ := HA.out.1.strs xs[j] (List.getElem_mem hlt)
      exact ⟨s, by rw [List.getElem?_append_left hlt, List.getElem?_eq_getElem hlt, h1], h2⟩
    have HW := Lib.hid (And.intro hwrap (And.intro hj hs))
    clear hwrap hj hs
    refine wp_plan (fun w => St B [65, 9] w0 w [(some b2, [.int .i64 4, .string ⟨#[]⟩, .string ⟨#[]⟩, .string ⟨#[]⟩, .int .i64 0, .slice none 0 0], 24), (some b1, [.int .i64 0, .string ⟨#[]⟩, .string ⟨#[]⟩, .string ⟨#[]⟩, .int .i64 0, .slice none 0 0], 24), (some b0, [.int .i64 h.kind, .string h.v, .string h.a, .string h.t, .int .i64 h.st, .slice p k.len c], 24), (some fb, [.int .i64 63, .int .i64 (left - 1), .slice (slP (some g)) n cap], 65), (some g, xs ++ sp, 9)]) [0, 1, 2, 3, 4, 5, 6, 7, 8, 9, 10, 11, 12, 13, 14, 15, 16, 17, 18, 19] (.q 0 (.q 1 (.q 2 (.q 3 (.q 4 (.q 5 (.q 6 (.q 7 (.q 8 (.q 9 (.q 10 (.q 11 (.q 12 (.q 13 (.q 14 (.q 15 (.q 16 (.q 17 (.q 18 (.q 19 (.e 20 false (.fin)))))))))))))))))))))) mixed (by kernel_rfl) (by kernel_rfl) (by kernel_rfl) (fun d v c a w h => by cases d <;> exact h) hst.drew ?_
    repeat ((refine AQ ?_); first | (refine Q1 ?_; go_frame) | (refine QW ?_; go_frame) | (refine QV ?_; go_frame))
    (refine AQ ?_)
    refine q_val rfl (v := .int .i64 j) ?_ ?_
    · intro w' hS
      go_simp
      rw [if_neg (by omega), HW.out.1, Int.tmod_eq_emod_of_nonneg (by omega), HW.out.2.1]
    go_frame
    (refine AQ ?_)
    refine q_val rfl (v := .pointer (some ⟨g, j, none⟩)) ?_ ?_
    · intro w' hS
      simp only [slP, Option.map]
      go_simp
    go_frame
    (refine AQ ?_)
    refine p_st1 rfl rfl rfl (by (repeat' (first | exact List.Mem.head _ | apply List.Mem.tail)); done) (one_of (by decide +kernel)) HW.out.2.2 ?_
    go_frame
    repeat ((refine AQ ?_); first | (refine Q1 ?_; go_frame) | (refine QW ?_; go_frame) | (refine QV ?_; go_frame))
    replace hst := hst.drew
    refine at_e (by simp only [List.getElem?_toArray, List.getElem?_cons_succ, List.getElem?_cons_zero]; rfl) rfl ?_
    (refine E1 hst ?_; clear hst; intro w hst; refine ⟨?_, ?_⟩; rotate_left; go_frame)
    · unfold wpP
      go_wp2_with ((first | ((with_reducible refine at_load ?_); first | refine X1 hst ?_ | refine XW hst ?_) | ((with_reducible refine at_store ?_); (first | refine Y1 hst ?_ | refine YW hst ?_); clear hst; intro w hst) | ((first | ((with_reducible refine at_alloc ?_); refine ZP hst ?_) | ((with_reducible refine at_box ?_); refine ZP hst ?_) | ((with_reducible refine at_bslice ?_); refine ZS hst ?_)); clear hst; (first | ((fail_if_success have := b0); intro b0 w hb0 hst) | ((fail_if_success have := b1); intro b1 w hb1 hst) | ((fail_if_success have := b2); intro b2 w hb2 hst) | ((fail_if_success have := b3); intro b3 w hb3 hst) | (intro b4 w hb4 hst)))))
      refine ret_cell hst rfl rfl (by (repeat' (first | exact List.Mem.head _ | apply List.Mem.tail)); done) (by exact agg_of rfl rfl) rfl ?_
      refine ⟨⟨4, ByteArray.empty, s, ByteArray.empty, 0⟩, .nil, none, 0, left - 1, some g, n, cap, xs, sp, rfl, .inl rfl, Nat.le_refl _, ⟨⟨hs8, Nat.zero_le _, Nat.zero_le _, .inr (.inr (.inr ⟨rfl, rfl⟩))⟩, trivial⟩, by omega, by simp [F.size]; omega, ⟨hst.sub (.cons _ (.cons _ (.cons _ (List.Sublist.refl _)))), HA.out.1.gr, HA.out.1.strs, by have := HA.out.1.most; omega, HA.out.1.mle⟩, fun h => absurd (HKD.out.2 h) (by decide)⟩
    · intro h; cases h
end Go.Proofs.YtpajcfkldnbpfaaGreatDoor
