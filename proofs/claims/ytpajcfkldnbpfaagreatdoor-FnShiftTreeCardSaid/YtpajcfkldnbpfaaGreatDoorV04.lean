/- MayWord and the fitter's scalars. Trees in memory; void, keyed. What the fitter makes: the words; and its keys. -/
import Derived.Test.YtpajcfkldnbpfaaGreatDoorV03
set_option linter.unusedSimpArgs false
set_option linter.unusedVariables false
namespace Go.Proofs.YtpajcfkldnbpfaaGreatDoor
open Go.RowKit
def PlainOk (s : ByteArray) : Prop := (∃ k, 0 < k ∧ KnownP s k) ∨ ∃ h : 0 < s.size, letB (s[0].toNat : Int) = true
def MayP (s : ByteArray) (st : Int) (b : Bool) : Prop := b = true → s.size ≤ 40 ∧ (st = 1 → PlainOk s)
theorem MayWord_any (s : ByteArray) (st : Int) (w : World) (hs : s.size < maxLen) (h1 : 1 ≤ st) (h5 : st ≤ 5) :
    Calls Tryz.prog 85 #[.string s, .int .i64 st] w (SomeBB (MayP s st) w) := by
  have HS := Lib.hid hs
  clear hs
  by_cases h40 : s.size ≤ 40
  · have H40 := Lib.hid h40
    have hcase : st = 1 ∨ st = 2 ∨ st = 3 ∨ st = 4 ∨ st = 5 := by omega
    clear h1 h5
    rcases hcase with rfl | rfl | rfl | rfl | rfl
    · go_enter Tryz.func85, Tryz.ntmps85
      go_wp2_with fail
      refine (Meant_any _ _ (Nat.le_of_lt HS.out)).mono ?_
      rintro e w1 ⟨k, hk, rfl, hb⟩
      have HK := Lib.hid hk
      have HW := Lib.hid hb
      clear hk hb
      go_wp2_with fail
      go_ret
      refine ⟨_, fun h => ⟨H40.out, fun _ => ?_⟩, rfl, HW.out⟩
      have h0 : 0 < k := by simpa using h
      rcases HK.out h0 with h2 | h2
      · exact .inl ⟨k, h0, h2⟩
      · exact .inr h2
    · go_enter Tryz.func85, Tryz.ntmps85
      go_wp2_with fail
      refine (wrPrintable_any _ _ (Nat.le_of_lt HS.out)).mono ?_
      rintro e w1 ⟨b, -, rfl, rfl⟩
      go_wp2_with fail
      go_ret
      exact ⟨_, fun h => ⟨H40.out, fun h => absurd h (by decide)⟩, rfl, Below.refl _ _⟩
    · go_enter Tryz.func85, Tryz.ntmps85
      go_wp2_with fail
      refine (wrAscii_any _ _ (Nat.le_of_lt HS.out)).mono ?_
      rintro e w1 ⟨b, -, rfl, rfl⟩
      go_wp2_with fail
      go_ret
      exact ⟨_, fun h => ⟨H40.out, fun h => absurd h (by decide)⟩, rfl, Below.refl _ _⟩
    · go_enter Tryz.func85, Tryz.ntmps85
      go_wp2_with fail
      refine (wrBlocky_any _ _ (Nat.le_of_lt HS.out)).mono ?_
      rintro e w1 ⟨b, -, rfl, rfl⟩
      go_wp2_with fail
      go_ret
      exact ⟨_, fun h => ⟨H40.out, fun h => absurd h (by decide)⟩, rfl, Below.refl _ _⟩
    · go_enter Tryz.func85, Tryz.ntmps85
      go_wp2_with fail
      refine (wrFoldable_any _ _ HS.out).mono ?_
      rintro e w1 ⟨b, -, rfl, rfl⟩
      go_wp2_with fail
      go_ret
      exact ⟨_, fun h => ⟨H40.out, fun h => absurd h (by decide)⟩, rfl, Below.refl _ _⟩
  · have h40 : (40 : Int) < s.size := by omega
    go_enter Tryz.func85, Tryz.ntmps85
    go_wp2_with fail
    go_ret
    exact ⟨_, (fun h => by cases h), rfl, Below.refl _ _⟩
def tC (k : Int) (v a t : ByteArray) (st : Int) (ks : Value) : List Value := [.int .i64 k, .string v, .string a, .string t, .int .i64 st, ks]
def ScalarR (a0 t0 : ByteArray) (w : World) (e : Ending) (w' : World) : Prop := ∃ (v a t : ByteArray) (st : Int), e = .returned (.agg #[.int .i64 1, .string v, .string a, .string t, .int .i64 st, .slice none 0 0]) ∧ v.size ≤ 40 ∧ (1 ≤ st ∧ st ≤ 5) ∧ (st = 1 → PlainOk v) ∧ (a = a0 ∨ a = ByteArray.empty) ∧ (t = t0 ∨ t = ByteArray.empty) ∧ Below w.heap.size w w'
theorem plain_v : PlainOk ⟨#[118]⟩ := .inr ⟨by decide, by decide⟩
theorem plain_empty : PlainOk ByteArray.empty := .inl ⟨1, by decide, .inl ⟨rfl, by decide⟩⟩
set_option maxRecDepth 100000 in
set_option maxHeartbeats 2000000 in
theorem scalar_any (v a t : ByteArray) (st : Int) (flow : Bool) (fb : Nat) (left : Int) (an : Value) (w0 : World) (hv : v.size ≤ maxLen) (h1 : 1 ≤ st) (h5 : st ≤ 5) (hb : w0.heap[fb]? = some (.cells #[.int .i64 63, .int .i64 left, an] 65 (0, 0))) :
    Calls Tryz.prog 46 #[.pointer (some ⟨fb, 0, none⟩), .agg #[.int .i64 1, .string v, .string a, .string t, .int .i64 st, .slice none 0 0], .bool flow] w0 (ScalarR a t w0) := by
  have HB := Lib.hid hb
  clear hb
  have hst := St.nil w0.heap.size ⟨[], []⟩ w0 (Nat.le_refl _)
  go_enter Tryz.func46, Tryz.ntmps46
  go_upto_region 2 with ((first | ((with_reducible refine at_load ?_); first | refine X1 hst ?_ | refine XW hst ?_) | ((with_reducible refine at_store ?_); (first | refine Y1 hst ?_ | refine YW hst ?_); clear hst; intro w hst) | ((first | ((with_reducible refine at_alloc ?_); refine ZP hst ?_) | ((with_reducible refine at_box ?_); refine ZP hst ?_) | ((with_reducible refine at_bslice ?_); refine ZS hst ?_)); clear hst; (first | ((fail_if_success have := b0); intro b0 w hb0 hst) | ((fail_if_success have := b1); intro b1 w hb1 hst) | (intro b2 w hb2 hst)))))
  go_frame
  generalize hx : v.extract 0 (min (v.size : Int) 40).toNat = x at hst ⊢
  have hx40 : x.size ≤ 40 := by rw [← hx]; simp [ByteArray.size_extract]; omega
  clear hx
  have HX := Lib.hid hx40
  clear hx40
  go_cut [25] (fun y wx => w = wx ∧ ∃ b : Bool, y = .bool b)
  case first =>
    have c4 := hst.cell (off := 4) (by (repeat' (first | exact List.Mem.head _ | apply List.Mem.tail)); done) rfl
    have hbw : w.heap[fb]? = some (.cells #[.int .i64 63, .int .i64 left, an] 65 (0, 0)) := (hst.kp.low fb (lt_of_heap HB.out)).trans HB.out
    have HBW := Lib.hid hbw
    clear hbw
    by_cases h3 : 3 < st
    · cases flow
      all_goals
        go_wp2_with (first | (go_at_call 43; refine (has_any _ fb left 4 an HBW.out (by omega)).mono ?_; rintro e w' ⟨rfl, rfl⟩) | (first | ((with_reducible refine at_load ?_); first | refine X1 hst ?_ | refine XW hst ?_) | ((with_reducible refine at_store ?_); (first | refine Y1 hst ?_ | refine YW hst ?_); clear hst; intro w hst) | ((first | ((with_reducible refine at_alloc ?_); refine ZP hst ?_) | ((with_reducible refine at_box ?_); refine ZP hst ?_) | ((with_reducible refine at_bslice ?_); refine ZS hst ?_)); clear hst; (first | ((fail_if_success have := b0); intro b0 w hb0 hst) | ((fail_if_success have := b1); intro b1 w hb1 hst) | (intro b2 w hb2 hst)))))
        go_meet
        case rel => exact ⟨rfl, _, rfl⟩
    · go_wp2_with ((first | ((with_reducible refine at_load ?_); first | refine X1 hst ?_ | refine XW hst ?_) | ((with_reducible refine at_store ?_); (first | refine Y1 hst ?_ | refine YW hst ?_); clear hst; intro w hst) | ((first | ((with_reducible refine at_alloc ?_); refine ZP hst ?_) | ((with_reducible refine at_box ?_); refine ZP hst ?_) | ((with_reducible refine at_bslice ?_); refine ZS hst ?_)); clear hst; (first | ((fail_if_success have := b0); intro b0 w hb0 hst) | ((fail_if_success have := b1); intro b1 w hb1 hst) | (intro b2 w hb2 hst)))))
      go_meet
      case rel => exact ⟨rfl, _, rfl⟩
  case rest =>
  obtain ⟨rfl, b, rfl⟩ := hcut
  go_upto_if 25 with (fail)
  go_cut [0] (fun y wx => y = .pointer (some ⟨fb, 0, none⟩) ∧ ∃ st2 : Int, Hid (1 ≤ st2 ∧ st2 ≤ 5) ∧ St w0.heap.size ⟨[], []⟩ w0 wx [(some b1, [.int .i64 0, .string ByteArray.empty, .string ByteArray.empty, .string ByteArray.empty, .int .i64 0, .slice none 0 0], 24), (some b0, [.int .i64 1, .string x, .string a, .string t, .int .i64 st2, .slice none 0 0], 24)])
  case first =>
    cases b
    · go_wp2_with ((first | ((with_reducible refine at_load ?_); first | refine X1 hst ?_ | refine XW hst ?_) | ((with_reducible refine at_store ?_); (first | refine Y1 hst ?_ | refine YW hst ?_); clear hst; intro w hst) | ((first | ((with_reducible refine at_alloc ?_); refine ZP hst ?_) | ((with_reducible refine at_box ?_); refine ZP hst ?_) | ((with_reducible refine at_bslice ?_); refine ZS hst ?_)); clear hst; (first | ((fail_if_success have := b0); intro b0 w hb0 hst) | ((fail_if_success have := b1); intro b1 w hb1 hst) | (intro b2 w hb2 hst)))))
      go_meet
      case rel => exact ⟨rfl, st, Lib.hid ⟨h1, h5⟩, hst⟩
    · go_wp2_with ((first | ((with_reducible refine at_load ?_); first | refine X1 hst ?_ | refine XW hst ?_) | ((with_reducible refine at_store ?_); (first | refine Y1 hst ?_ | refine YW hst ?_); clear hst; intro w hst) | ((first | ((with_reducible refine at_alloc ?_); refine ZP hst ?_) | ((with_reducible refine at_box ?_); refine ZP hst ?_) | ((with_reducible refine at_bslice ?_); refine ZS hst ?_)); clear hst; (first | ((fail_if_success have := b0); intro b0 w hb0 hst) | ((fail_if_success have := b1); intro b1 w hb1 hst) | (intro b2 w hb2 hst)))))
      go_meet
      case rel => exact ⟨rfl, 3, Lib.hid (by decide), hst⟩
  case rest =>
  obtain ⟨rfl, st2, hs2, hst2⟩ := hcut
  clear hst
  have hst := hst2
  clear hst2
  have hbw : wc.heap[fb]? = some (.cells #[.int .i64 63, .int .i64 left, an] 65 (0, 0)) := (hst.kp.low fb (lt_of_heap HB.out)).trans HB.out
  have HBW := Lib.hid hbw
  clear hbw
  by_cases he : st2 = 1 ∧ x = ByteArray.empty
  · obtain ⟨rfl, rfl⟩ := he
    have c1 := hst.cell (b := b0) (off := 1) (by (repeat' (first | exact List.Mem.head _ | apply List.Mem.tail)); done) rfl
    go_wp2_with (first | (go_at_call 43; refine (has_any _ fb left 2 an HBW.out (by omega)).mono ?_; rintro e w' ⟨rfl, rfl⟩) | (first | ((with_reducible refine at_load ?_); first | refine X1 hst ?_ | refine XW hst ?_) | ((with_reducible refine at_store ?_); (first | refine Y1 hst ?_ | refine YW hst ?_); clear hst; intro w hst) | ((first | ((with_reducible refine at_alloc ?_); refine ZP hst ?_) | ((with_reducible refine at_box ?_); refine ZP hst ?_) | ((with_reducible refine at_bslice ?_); refine ZS hst ?_)); clear hst; (first | ((fail_if_success have := b0); intro b0 w hb0 hst) | ((fail_if_success have := b1); intro b1 w hb1 hst) | (intro b2 w hb2 hst)))))
    refine ret_cell hst rfl rfl (by (repeat' (first | exact List.Mem.head _ | apply List.Mem.tail)); done) (by exact agg_of rfl rfl) rfl ?_
    exact ⟨_, _, _, _, rfl, by decide, by decide, fun _ => plain_empty, .inr rfl, .inr rfl, hst.kp.below⟩
  go_upto_region 4 with (fail)
  go_cut [38] (fun y wx => wc = wx ∧ y = .bool false)
  case first =>
    by_cases h1 : st2 = 1
    · subst h1
      have e0 : x.toList.isEmpty = false := isEmpty_list fun h => he ⟨rfl, of_list h⟩
      have c1 := hst.cell (b := b0) (off := 1) (by (repeat' (first | exact List.Mem.head _ | apply List.Mem.tail)); done) rfl
      go_wp2_with ((first | ((with_reducible refine at_load ?_); first | refine X1 hst ?_ | refine XW hst ?_) | ((with_reducible refine at_store ?_); (first | refine Y1 hst ?_ | refine YW hst ?_); clear hst; intro w hst) | ((first | ((with_reducible refine at_alloc ?_); refine ZP hst ?_) | ((with_reducible refine at_box ?_); refine ZP hst ?_) | ((with_reducible refine at_bslice ?_); refine ZS hst ?_)); clear hst; (first | ((fail_if_success have := b0); intro b0 w hb0 hst) | ((fail_if_success have := b1); intro b1 w hb1 hst) | (intro b2 w hb2 hst)))))
      go_meet
      case rel => exact ⟨rfl, rfl⟩
    · have h1' : (st2 == 1) = false := by simpa using h1
      go_wp2_with ((first | ((with_reducible refine at_load ?_); first | refine X1 hst ?_ | refine XW hst ?_) | ((with_reducible refine at_store ?_); (first | refine Y1 hst ?_ | refine YW hst ?_); clear hst; intro w hst) | ((first | ((with_reducible refine at_alloc ?_); refine ZP hst ?_) | ((with_reducible refine at_box ?_); refine ZP hst ?_) | ((with_reducible refine at_bslice ?_); refine ZS hst ?_)); clear hst; (first | ((fail_if_success have := b0); intro b0 w hb0 hst) | ((fail_if_success have := b1); intro b1 w hb1 hst) | (intro b2 w hb2 hst)))))
      go_meet
      case rel => exact ⟨rfl, rfl⟩
  case rest =>
  obtain ⟨rfl, rfl⟩ := hcut
  go_upto_region 7 with (fail)
  go_cut [60] (fun y wx => wc = wx ∧ y = .bool false)
  case first =>
    by_cases h1 : st2 = 1
    · subst h1
      have e0 : x.toList.isEmpty = false := isEmpty_list fun h => he ⟨rfl, of_list h⟩
      have c1 := hst.cell (b := b0) (off := 1) (by (repeat' (first | exact List.Mem.head _ | apply List.Mem.tail)); done) rfl
      go_wp2_with ((first | ((with_reducible refine at_load ?_); first | refine X1 hst ?_ | refine XW hst ?_) | ((with_reducible refine at_store ?_); (first | refine Y1 hst ?_ | refine YW hst ?_); clear hst; intro w hst) | ((first | ((with_reducible refine at_alloc ?_); refine ZP hst ?_) | ((with_reducible refine at_box ?_); refine ZP hst ?_) | ((with_reducible refine at_bslice ?_); refine ZS hst ?_)); clear hst; (first | ((fail_if_success have := b0); intro b0 w hb0 hst) | ((fail_if_success have := b1); intro b1 w hb1 hst) | (intro b2 w hb2 hst)))))
      refine (Known_any _ _ (by unfold maxLen; have := HX.out; omega)).mono ?_
      rintro e w' ⟨k, -, rfl, rfl⟩
      by_cases hk : 0 < k
      · go_wp2_with (first | (go_at_call 43; refine (has_any _ fb left 1 an HBW.out (by omega)).mono ?_; rintro e w' ⟨rfl, rfl⟩) | (first | ((with_reducible refine at_load ?_); first | refine X1 hst ?_ | refine XW hst ?_) | ((with_reducible refine at_store ?_); (first | refine Y1 hst ?_ | refine YW hst ?_); clear hst; intro w hst) | ((first | ((with_reducible refine at_alloc ?_); refine ZP hst ?_) | ((with_reducible refine at_box ?_); refine ZP hst ?_) | ((with_reducible refine at_bslice ?_); refine ZS hst ?_)); clear hst; (first | ((fail_if_success have := b0); intro b0 w hb0 hst) | ((fail_if_success have := b1); intro b1 w hb1 hst) | (intro b2 w hb2 hst)))))
        go_meet
        case rel => exact ⟨rfl, rfl⟩
      · go_wp2_with ((first | ((with_reducible refine at_load ?_); first | refine X1 hst ?_ | refine XW hst ?_) | ((with_reducible refine at_store ?_); (first | refine Y1 hst ?_ | refine YW hst ?_); clear hst; intro w hst) | ((first | ((with_reducible refine at_alloc ?_); refine ZP hst ?_) | ((with_reducible refine at_box ?_); refine ZP hst ?_) | ((with_reducible refine at_bslice ?_); refine ZS hst ?_)); clear hst; (first | ((fail_if_success have := b0); intro b0 w hb0 hst) | ((fail_if_success have := b1); intro b1 w hb1 hst) | (intro b2 w hb2 hst)))))
        go_meet
        case rel => exact ⟨rfl, rfl⟩
    · have h1' : (st2 == 1) = false := by simpa using h1
      go_wp2_with ((first | ((with_reducible refine at_load ?_); first | refine X1 hst ?_ | refine XW hst ?_) | ((with_reducible refine at_store ?_); (first | refine Y1 hst ?_ | refine YW hst ?_); clear hst; intro w hst) | ((first | ((with_reducible refine at_alloc ?_); refine ZP hst ?_) | ((with_reducible refine at_box ?_); refine ZP hst ?_) | ((with_reducible refine at_bslice ?_); refine ZS hst ?_)); clear hst; (first | ((fail_if_success have := b0); intro b0 w hb0 hst) | ((fail_if_success have := b1); intro b1 w hb1 hst) | (intro b2 w hb2 hst)))))
      go_meet
      case rel => exact ⟨rfl, rfl⟩
  case rest =>
  obtain ⟨rfl, rfl⟩ := hcut
  clear he
  go_wp2_with ((first | ((with_reducible refine at_load ?_); first | refine X1 hst ?_ | refine XW hst ?_) | ((with_reducible refine at_store ?_); (first | refine Y1 hst ?_ | refine YW hst ?_); clear hst; intro w hst) | ((first | ((with_reducible refine at_alloc ?_); refine ZP hst ?_) | ((with_reducible refine at_box ?_); refine ZP hst ?_) | ((with_reducible refine at_bslice ?_); refine ZS hst ?_)); clear hst; (first | ((fail_if_success have := b0); intro b0 w hb0 hst) | ((fail_if_success have := b1); intro b1 w hb1 hst) | (intro b2 w hb2 hst)))))
  refine (MayWord_any _ _ _ (by unfold maxLen; have := HX.out; omega) hs2.out.1 hs2.out.2).mono ?_
  rintro e w1 ⟨b, hb, rfl, hw1⟩
  replace hst := hst.below hw1
  clear hb hw1 HBW
  go_upto_if 67 with (fail)
  go_cut [0] (fun y wx => y = .pointer (some ⟨fb, 0, none⟩) ∧ ∃ st2 : Int, Hid (1 ≤ st2 ∧ st2 ≤ 5) ∧ St w0.heap.size ⟨[], []⟩ w0 wx [(some b1, [.int .i64 0, .string ByteArray.empty, .string ByteArray.empty, .string ByteArray.empty, .int .i64 0, .slice none 0 0], 24), (some b0, [.int .i64 1, .string x, .string a, .string t, .int .i64 st2, .slice none 0 0], 24)])
  case first =>
    cases b
    · go_wp2_with ((first | ((with_reducible refine at_load ?_); first | refine X1 hst ?_ | refine XW hst ?_) | ((with_reducible refine at_store ?_); (first | refine Y1 hst ?_ | refine YW hst ?_); clear hst; intro w hst) | ((first | ((with_reducible refine at_alloc ?_); refine ZP hst ?_) | ((with_reducible refine at_box ?_); refine ZP hst ?_) | ((with_reducible refine at_bslice ?_); refine ZS hst ?_)); clear hst; (first | ((fail_if_success have := b0); intro b0 w hb0 hst) | ((fail_if_success have := b1); intro b1 w hb1 hst) | (intro b2 w hb2 hst)))))
      go_meet
      case rel => exact ⟨rfl, 3, Lib.hid (by decide), hst⟩
    · go_wp2_with ((first | ((with_reducible refine at_load ?_); first | refine X1 hst ?_ | refine XW hst ?_) | ((with_reducible refine at_store ?_); (first | refine Y1 hst ?_ | refine YW hst ?_); clear hst; intro w hst) | ((first | ((with_reducible refine at_alloc ?_); refine ZP hst ?_) | ((with_reducible refine at_box ?_); refine ZP hst ?_) | ((with_reducible refine at_bslice ?_); refine ZS hst ?_)); clear hst; (first | ((fail_if_success have := b0); intro b0 w hb0 hst) | ((fail_if_success have := b1); intro b1 w hb1 hst) | (intro b2 w hb2 hst)))))
      go_meet
      case rel => exact ⟨rfl, st2, hs2, hst⟩
  case rest =>
  clear hst hs2
  obtain ⟨rfl, st2, hs2, hst⟩ := hcut
  go_wp2_with ((first | ((with_reducible refine at_load ?_); first | refine X1 hst ?_ | refine XW hst ?_) | ((with_reducible refine at_store ?_); (first | refine Y1 hst ?_ | refine YW hst ?_); clear hst; intro w hst) | ((first | ((with_reducible refine at_alloc ?_); refine ZP hst ?_) | ((with_reducible refine at_box ?_); refine ZP hst ?_) | ((with_reducible refine at_bslice ?_); refine ZS hst ?_)); clear hst; (first | ((fail_if_success have := b0); intro b0 w hb0 hst) | ((fail_if_success have := b1); intro b1 w hb1 hst) | (intro b2 w hb2 hst)))))
  refine (MayWord_any _ _ _ (by unfold maxLen; have := HX.out; omega) hs2.out.1 hs2.out.2).mono ?_
  rintro e w1 ⟨b, hb, rfl, hw1⟩
  replace hst := hst.below hw1
  have HM := Lib.hid hb
  clear hb hw1
  cases b
  · go_wp2_with ((first | ((with_reducible refine at_load ?_); first | refine X1 hst ?_ | refine XW hst ?_) | ((with_reducible refine at_store ?_); (first | refine Y1 hst ?_ | refine YW hst ?_); clear hst; intro w hst) | ((first | ((with_reducible refine at_alloc ?_); refine ZP hst ?_) | ((with_reducible refine at_box ?_); refine ZP hst ?_) | ((with_reducible refine at_bslice ?_); refine ZS hst ?_)); clear hst; (first | ((fail_if_success have := b0); intro b0 w hb0 hst) | ((fail_if_success have := b1); intro b1 w hb1 hst) | (intro b2 w hb2 hst)))))
    refine ret_cell hst rfl rfl (by (repeat' (first | exact List.Mem.head _ | apply List.Mem.tail)); done) (by exact agg_of rfl rfl) rfl ?_
    exact ⟨_, _, _, _, rfl, by decide, hs2.out, fun _ => plain_v, .inl rfl, .inl rfl, hst.kp.below⟩
  · go_wp2_with ((first | ((with_reducible refine at_load ?_); first | refine X1 hst ?_ | refine XW hst ?_) | ((with_reducible refine at_store ?_); (first | refine Y1 hst ?_ | refine YW hst ?_); clear hst; intro w hst) | ((first | ((with_reducible refine at_alloc ?_); refine ZP hst ?_) | ((with_reducible refine at_box ?_); refine ZP hst ?_) | ((with_reducible refine at_bslice ?_); refine ZS hst ?_)); clear hst; (first | ((fail_if_success have := b0); intro b0 w hb0 hst) | ((fail_if_success have := b1); intro b1 w hb1 hst) | (intro b2 w hb2 hst)))))
    refine ret_cell hst rfl rfl (by (repeat' (first | exact List.Mem.head _ | apply List.Mem.tail)); done) (by exact agg_of rfl rfl) rfl ?_
    exact ⟨_, _, _, _, rfl, HX.out, hs2.out, (HM.out rfl).2, .inl rfl, .inl rfl, hst.kp.below⟩
end Go.Proofs.YtpajcfkldnbpfaaGreatDoor
namespace Go.Proofs.YtpajcfkldnbpfaaGreatDoor
open Go.RowKit
structure TH where
  kind : Int
  v : ByteArray
  a : ByteArray
  t : ByteArray
  st : Int
def TS : Shp TH := ⟨fun h ks => [.int .i64 h.kind, .string h.v, .string h.a, .string h.t, .int .i64 h.st, ks], 6, 24, fun _ _ => rfl, by decide⟩
def tval (h : TH) (ks : Value) : Value := .agg #[.int .i64 h.kind, .string h.v, .string h.a, .string h.t, .int .i64 h.st, ks]
def tops : F TH → List ByteArray
  | .nil => []
  | .cons h _ r => h.v :: tops r
theorem tops_len : ∀ f : F TH, (tops f).length = f.len
  | .nil => rfl
  | .cons _ _ r => by simp [tops, F.len, tops_len r]
theorem tops_get : ∀ {f : F TH} {i : Nat} {h : TH} {k : F TH}, f.get i = some (h, k) → h.v ∈ tops f
  | .cons h' k' r, 0, h, k, e => by
    simp only [F.get, Option.some.injEq, Prod.mk.injEq] at e
    obtain ⟨rfl, rfl⟩ := e
    exact List.mem_cons_self
  | .cons h' k' r, i + 1, h, k, e => List.mem_cons_of_mem _ (tops_get (f := r) e)
theorem eq_of_list {a b : ByteArray} (h : (a.toList == b.toList) = true) : a = b := by
  rw [ByteArray.toList_eq, ByteArray.toList_eq] at h
  have := of_list (s := a) (l := b.data.toList) (by simpa using h)
  rw [this]
theorem void_any (k st : Int) (v an tg : ByteArray) (ks : Value) (hks : ∃ p n c, ks = .slice p n c) (w : World) :
    Calls Tryz.prog 25 #[.agg #[.int .i64 k, .string v, .string an, .string tg, .int .i64 st, ks]] w (AnyB w) := by
  obtain ⟨p, n, c, rfl⟩ := hks
  have hh := hollow_any k st v an tg p n c (w.alloc (.cells #[.int .i64 k, .string v, .string an, .string tg, .int .i64 st, .slice p n c] 24))
  cases h1 : hollowB k st v
  · rw [h1] at hh
    go_enter Tryz.func25, Tryz.ntmps25
    go_wp2_with fail
    refine hh.mono ?_
    rintro e w1 ⟨rfl, hb⟩
    have HW := Lib.hid hb
    clear hb hh
    go_wp2_with fail
    go_ret
    exact ⟨_, rfl, ((Below.refl _ _).alloc (Nat.le_refl _) _).trans (HW.out.mono (by simp))⟩
  · rw [h1] at hh
    go_enter Tryz.func25, Tryz.ntmps25
    go_wp2_with fail
    refine hh.mono ?_
    rintro e w1 ⟨rfl, hb⟩
    have c2 : w1.cell? ⟨w.heap.size, 2, none⟩ = some (.string an) := by rw [hb.cell (p := ⟨w.heap.size, 2, none⟩) (by simp)]; simp [World.cell?_alloc_new]
    have c3 : w1.cell? ⟨w.heap.size, 3, none⟩ = some (.string tg) := by rw [hb.cell (p := ⟨w.heap.size, 3, none⟩) (by simp)]; simp [World.cell?_alloc_new]
    have HW := Lib.hid hb
    clear hb hh
    cases h2 : an.toList.isEmpty
    all_goals
      go_wp2_with fail
      go_ret
      exact ⟨_, rfl, ((Below.refl _ _).alloc (Nat.le_refl _) _).trans (HW.out.mono (by simp))⟩
set_option maxRecDepth 100000 in
set_option maxHeartbeats 1000000 in
theorem keyed_any {A : Nat → Nat → Prop} (h : TH) (f : F TH) (p : Option Addr) (cap : Nat) (s : ByteArray) (w0 : World) (hs : Sl TS A w0 p f) (hl : f.len ≤ 30) :
    Calls Tryz.prog 118 #[tval h (.slice p f.len cap), .string s] w0 (SomeBB (fun b => b = true → s ∈ tops f) w0) := by
  unfold tval
  have HSl := Lib.hid hs
  clear hs
  have hst := St.nil w0.heap.size ⟨[], []⟩ w0 (Nat.le_refl _)
  go_enter Tryz.func118, Tryz.ntmps118
  go_wp2_with ((first | ((with_reducible refine at_load ?_); first | refine X1 hst ?_ | refine XW hst ?_) | ((with_reducible refine at_store ?_); (first | refine Y1 hst ?_ | refine YW hst ?_); clear hst; intro w hst) | ((first | ((with_reducible refine at_alloc ?_); refine ZP hst ?_) | ((with_reducible refine at_box ?_); refine ZP hst ?_) | ((with_reducible refine at_bslice ?_); refine ZS hst ?_)); clear hst; (first | ((fail_if_success have := b0); intro b0 w hb0 hst) | (intro b1 w hb1 hst)))))
  go_loop [5] (fun i => ∃ k : Nat, k ≤ f.len + 1 ∧ i = .int .i64 k) (fun i => f.len + 2 - (intOf i).toNat)
  case atStart => exact ⟨0, by omega, rfl⟩
  case round =>
    obtain ⟨k, hk, rfl⟩ := hrel
    have c5 := hst.cell (b := b0) (off := 5) (by (repeat' (first | exact List.Mem.head _ | apply List.Mem.tail)); done) rfl
    by_cases hlt : k < f.len
    · obtain ⟨x, kk, hg⟩ := F.get_lt hlt
      obtain ⟨b, o, q, cap', rfl, -, -, hc⟩ := Sl.at (Sl.hold (A' := A) (Hold.below hst.kp.below (fun _ _ h => h)) HSl.out) hg
      have d0 := hc 0 _ rfl
      have d1 := hc 1 _ rfl
      have HG := Lib.hid hg
      clear hc hg
      simp only [TS, Nat.add_zero] at d0 d1
      go_wp2_with ((first | ((with_reducible refine at_load ?_); first | refine X1 hst ?_ | refine XW hst ?_) | ((with_reducible refine at_store ?_); (first | refine Y1 hst ?_ | refine YW hst ?_); clear hst; intro w hst) | ((first | ((with_reducible refine at_alloc ?_); refine ZP hst ?_) | ((with_reducible refine at_box ?_); refine ZP hst ?_) | ((with_reducible refine at_bslice ?_); refine ZS hst ?_)); clear hst; (first | ((fail_if_success have := b0); intro b0 w hb0 hst) | (intro b1 w hb1 hst)))))
      · go_ret
        refine ⟨true, fun _ => ?_, rfl, hst.kp.below⟩
        have he : x.v = s := eq_of_list (by first | assumption | (simp_all; done))
        rw [← he]
        exact tops_get HG.out
      all_goals
        go_round
        case rel => exact ⟨k + 2, by omega, by go_num⟩
        case measure => simp [intOf]; omega
    · go_wp2_with ((first | ((with_reducible refine at_load ?_); first | refine X1 hst ?_ | refine XW hst ?_) | ((with_reducible refine at_store ?_); (first | refine Y1 hst ?_ | refine YW hst ?_); clear hst; intro w hst) | ((first | ((with_reducible refine at_alloc ?_); refine ZP hst ?_) | ((with_reducible refine at_box ?_); refine ZP hst ?_) | ((with_reducible refine at_bslice ?_); refine ZS hst ?_)); clear hst; (first | ((fail_if_success have := b0); intro b0 w hb0 hst) | (intro b1 w hb1 hst)))))
      go_ret
      exact ⟨false, (fun h => by cases h), rfl, hst.kp.below⟩
end Go.Proofs.YtpajcfkldnbpfaaGreatDoor
namespace Go.Proofs.YtpajcfkldnbpfaaGreatDoor
open Go.RowKit
theorem St.rebase {B : Nat} {Ts : Ch} {w0 w : World} {L L' : Rws} (h : St B Ts w0 w L) (hs : L'.Sublist L) (ht : (L'.all fun x => Ts.ts.contains x.2.2) = true) : St B Ts w w L' := by
  have h2 := h.sub hs
  refine ⟨Kp.refl _ _ _, h.size, fun b l t hm => ⟨h2.heap hm, .inr ?_⟩, h2.ne⟩
  have h3 := List.all_eq_true.1 ht _ hm
  refine ⟨?_, .inl (by simpa using h3)⟩
  have := h.base
  rcases (h2.rows b l t hm).2 with h4 | h4 <;> omega
theorem St.after {B : Nat} {Ts : Ch} {w0 w w' : World} {L1 L2 L2' : Rws} (h : St B Ts w0 w (L1 ++ L2)) {ts : List Nat} (h2 : St B ts w w' L2') (h1 : (L1.all fun x => !ts.contains x.2.2) = true) (h3 : (L2'.all fun x => ts.contains x.2.2) = true) (hts : ∀ t, t ∈ ts → t ∈ Ts.ts) :
    St B Ts w0 w' (L1 ++ L2') := by
  have ha : St B Ts w0 w' L1 := (h.sub (List.sublist_append_left _ _)).keep h2.kp (Nat.le_refl _) hts h1 rfl
  refine ⟨ha.kp, h.base, fun b l t hm => ?_, List.pairwise_append.2 ⟨ha.ne, h2.ne, fun x hx y hy b hb hc => ?_⟩⟩
  · rcases List.mem_append.1 hm with hm | hm
    · exact ha.rows b l t hm
    · refine ⟨h2.heap hm, .inr ?_⟩
      have h4 := List.all_eq_true.1 h3 _ hm
      refine ⟨?_, .inl (hts t (by simpa using h4))⟩
      have := h.size
      rcases (h2.rows b l t hm).2 with h5 | h5 <;> omega
  · obtain ⟨xb, xl, xt⟩ := x
    obtain ⟨yb, yl, yt⟩ := y
    simp only at hb hc
    subst hb
    subst hc
    have e1 := ha.heap hx
    have e2 := h2.heap hy
    rw [e1] at e2
    have e3 : xt = yt := by injection e2 with e2; injection e2
    have h4 := List.all_eq_true.1 h1 _ hx
    have h5 := List.all_eq_true.1 h3 _ hy
    simp only at h4 h5
    rw [e3, h5] at h4
    cases h4
structure FS (M : Int) (B : Nat) (w0 w : World) (fb : Nat) (left : Int) (oid : Option Nat) (n cap : Nat) (xs sp : List Value) : Prop where
  st : St B [65, 9] w0 w [(some fb, [.int .i64 63, .int .i64 left, .slice (slP oid) n cap], 65), (oid, xs ++ sp, 9)]
  gr : Gr 1 oid n cap xs sp
  strs : ∀ v ∈ xs, ∃ s : ByteArray, v = .string s ∧ s.size ≤ 8
  most : (n : Int) + left ≤ M
  mle : M ≤ 30
def TIn (h : TH) : Prop := h.v.size ≤ 140737488355328 ∧ h.a.size ≤ 140737488355328 ∧ h.t.size ≤ 140737488355328
def FIn (f : F TH) : Prop := f.len ≤ 140737488355328 ∧ f.all fun h k => TIn h ∧ k.len ≤ 140737488355328
def Kid1 (h : TH) (k : F TH) : Prop := h.kind = 1 ∧ k = .nil ∧ 1 ≤ h.st ∧ h.st ≤ 5 ∧ h.v.size ≤ 40 ∧ (h.st = 1 → PlainOk h.v)
def KeyOK (h : TH) (k : F TH) : Prop := Kid1 h k ∧ h.st ≤ 3 ∧ h.a.size = 0 ∧ h.t.size = 0
def PairsOK : F TH → Prop
  | .nil => True
  | .cons _ _ .nil => False
  | .cons h k (.cons _ _ r) => KeyOK h k ∧ PairsOK r
def NodeOK (h : TH) (k : F TH) : Prop := h.a.size ≤ 8 ∧ h.t.size ≤ 9 ∧ h.v.size ≤ 40 ∧ (Kid1 h k ∨ h.kind = 2 ∨ (h.kind = 3 ∧ PairsOK k) ∨ (h.kind = 4 ∧ k = .nil))
def TreeOK (h : TH) (k : F TH) : Prop := NodeOK h k ∧ k.all NodeOK
def New (lo b t : Nat) : Prop := lo ≤ b ∧ t = 24
def NewB (lo : Nat) (bs : List Nat) (b t : Nat) : Prop := lo ≤ b ∧ t = 24 ∧ b ∉ bs
def TreeR (h : TH) (M : Int) (B : Nat) (fb : Nat) (left : Int) (w : World) (e : Ending) (w' : World) : Prop :=
  ∃ (h' : TH) (k' : F TH) (p' : Option Addr) (c' : Nat) (left' : Int) (oid : Option Nat) (n cap : Nat) (xs sp : List Value), e = .returned (tval h' (.slice p' k'.len c')) ∧ Sl TS (New w.heap.size) w' p' k' ∧ k'.len ≤ c' ∧ TreeOK h' k' ∧ 0 ≤ left' ∧ (k'.size : Int) + 1 ≤ left - left' ∧
    FS M B w w' fb left' oid n cap xs sp ∧ (h.kind % 4 = 1 → Kid1 h' k' ∧ left' = left - 1 ∧ (h.a.size = 0 → h'.a.size = 0) ∧ (h.t.size = 0 → h'.t.size = 0))
def TreeC (h : TH) (k : F TH) : Prop := ∀ (M : Int) (B fb : Nat) (left : Int) (oid : Option Nat) (n cap : Nat) (xs sp : List Value) (level : Int) (flow : Bool) (p : Option Addr) (c : Nat) (w : World),
  FS M B w w fb left oid n cap xs sp → 1 ≤ left → left ≤ 30 → 1 ≤ level → level ≤ 6 → TIn h → FIn k → k.len ≤ c → Sl TS (fun b _ => b < B) w p k →
  Calls Tryz.prog 24 #[.pointer (some ⟨fb, 0, none⟩), tval h (.slice p k.len c), .int .i64 level, .bool flow] w (TreeR h M B fb left w)
def CollR (kd : Int) (a tg : ByteArray) (M : Int) (B : Nat) (fb : Nat) (left : Int) (w : World) (e : Ending) (w' : World) : Prop :=
  ∃ (st : Int) (tg' : ByteArray) (k' : F TH) (p' : Option Addr) (c' : Nat) (left' : Int) (oid : Option Nat) (n cap : Nat) (xs sp : List Value), e = .returned (.agg #[.int .i64 kd, .string ByteArray.empty, .string a, .string tg', .int .i64 st, .slice p' k'.len c']) ∧ Sl TS (New w.heap.size) w' p' k' ∧ k'.len ≤ c' ∧
    (kd = 3 → PairsOK k') ∧ k'.all NodeOK ∧ (tg' = tg ∨ tg' = ByteArray.empty) ∧ 0 ≤ left' ∧ (k'.size : Int) ≤ left - left' ∧ FS M B w w' fb left' oid n cap xs sp
def CollC (k : F TH) : Prop := ∀ (M : Int) (B fb : Nat) (left : Int) (oid : Option Nat) (n cap : Nat) (xs sp : List Value) (level : Int) (flow : Bool) (p : Option Addr) (c : Nat) (w : World) (h : TH) (kd : Int) (a tg : ByteArray),
  FS M B w w fb left oid n cap xs sp → 0 ≤ left → left ≤ 30 → 1 ≤ level → level ≤ 4 → TIn h → FIn k → k.len ≤ c → Sl TS (fun b _ => b < B) w p k → (kd = 2 ∨ kd = 3) →
  Calls Tryz.prog 47 #[.pointer (some ⟨fb, 0, none⟩), .agg #[.int .i64 kd, .string ByteArray.empty, .string a, .string tg, .int .i64 0, .slice none 0 0], tval h (.slice p k.len c), .int .i64 level, .bool flow] w (CollR kd a tg M B fb left w)
theorem FIn.nil : FIn .nil := ⟨by decide, trivial⟩
def nm (i : Nat) : ByteArray := ⟨#[107, UInt8.ofNat (48 + i)]⟩
theorem nm_inj {i j : Nat} (hi : i < 10) (hj : j < 10) (h : nm i = nm j) : i = j := by
  unfold nm at h
  injection h with h
  have h2 : UInt8.ofNat (48 + i) = UInt8.ofNat (48 + j) := by simpa using h
  have h3 := congrArg UInt8.toNat h2
  simp at h3
  omega
theorem pigeon {α : Type} [DecidableEq α] : ∀ (n : Nat) (f : Nat → α) (l : List α), (∀ i j, i < n → j < n → f i = f j → i = j) → (∀ i, i < n → f i ∈ l) → n ≤ l.length
  | 0, _, _, _, _ => Nat.zero_le _
  | n + 1, f, l, hf, hl => by
    have h1 := hl n (by omega)
    have h2 := pigeon n f (l.erase (f n)) (fun i j hi hj => hf i j (by omega) (by omega)) (fun i hi => by
      refine (List.mem_erase_of_ne fun e => ?_).2 (hl i (by omega))
      have := hf i n (by omega) (by omega) e
      omega)
    rw [List.length_erase_of_mem h1] at h2
    have := List.length_pos_of_mem h1
    omega
theorem plain_nm (i : Nat) : PlainOk (nm i) := .inr ⟨by show 0 < 2; decide, by show letB 107 = true; decide⟩
theorem plain_e : PlainOk ⟨#[101]⟩ := .inr ⟨by decide, by decide⟩
def KeyR (M : Int) (B : Nat) (fb : Nat) (left : Int) (w : World) (e : Ending) (w' : World) : Prop :=
  ∃ (h' : TH) (p' : Option Addr) (c' : Nat) (oid : Option Nat) (n cap : Nat) (xs sp : List Value), e = .returned (tval h' (.slice p' 0 c')) ∧ KeyOK h' .nil ∧ FS M B w w' fb (left - 1) oid n cap xs sp
end Go.Proofs.YtpajcfkldnbpfaaGreatDoor
