/- The keys that the fitter makes. The steps of a drawn region by a plan, over a list of known blocks. -/
import Derived.Test.YtpajcfkldnbpfaaGreatDoorV04
import Derived.Test.YtpajcfkldnbpfaaGreatDoorV03
import Derived.Maps.RangeWalk
set_option linter.unusedSimpArgs false
set_option linter.unusedVariables false
namespace Go.Proofs.YtpajcfkldnbpfaaGreatDoor
open Go.RowKit
set_option maxRecDepth 100000 in
set_option maxHeartbeats 2000000 in
theorem key_any (h ho : TH) (k f : F TH) (hT : ∀ h', TreeC h' k) (hN : ∀ h', TreeC h' .nil) (M : Int) (B fb lo : Nat) (left : Int) (oid : Option Nat) (n cap : Nat) (xs sp : List Value) (level : Int) (p po : Option Addr) (c co : Nat) (w0 : World)
    (hF : FS M B w0 w0 fb left oid n cap xs sp) (hl : 1 ≤ left) (hl2 : left ≤ 30) (hv1 : 1 ≤ level) (hv2 : level ≤ 5) (hi : TIn h) (hk : FIn k) (hc : k.len ≤ c) (hs : Sl TS (fun b _ => b < B) w0 p k) (hso : Sl TS (New lo) w0 po f) (hf : f.len ≤ 6) :
    Calls Tryz.prog 86 #[.pointer (some ⟨fb, 0, none⟩), tval h (.slice p k.len c), tval ho (.slice po f.len co), .int .i64 level] w0 (KeyR M B fb left w0) := by
  unfold tval
  have hst := hF.st
  have HA := Lib.hid (And.intro hF (And.intro hi (And.intro hk (And.intro hs hso))))
  have HT := Lib.hid hT
  have HN := Lib.hid hN
  clear hF hi hk hs hso hT hN
  go_enter Tryz.func86, Tryz.ntmps86
  go_upto_region 1 with ((first | ((with_reducible refine at_load ?_); first | refine X1 hst ?_ | refine XW hst ?_) | ((with_reducible refine at_store ?_); (first | refine Y1 hst ?_ | refine YW hst ?_); clear hst; intro w hst) | ((first | ((with_reducible refine at_alloc ?_); refine ZP hst ?_) | ((with_reducible refine at_box ?_); refine ZP hst ?_) | ((with_reducible refine at_bslice ?_); refine ZS hst ?_)); clear hst; (first | ((fail_if_success have := b0); intro b0 w hb0 hst) | ((fail_if_success have := b1); intro b1 w hb1 hst) | ((fail_if_success have := b2); intro b2 w hb2 hst) | ((fail_if_success have := b3); intro b3 w hb3 hst) | (intro b4 w hb4 hst)))))
  go_frame
  go_wp2_with ((first | ((with_reducible refine at_load ?_); first | refine X1 hst ?_ | refine XW hst ?_) | ((with_reducible refine at_store ?_); (first | refine Y1 hst ?_ | refine YW hst ?_); clear hst; intro w hst) | ((first | ((with_reducible refine at_alloc ?_); refine ZP hst ?_) | ((with_reducible refine at_box ?_); refine ZP hst ?_) | ((with_reducible refine at_bslice ?_); refine ZS hst ?_)); clear hst; (first | ((fail_if_success have := b0); intro b0 w hb0 hst) | ((fail_if_success have := b1); intro b1 w hb1 hst) | ((fail_if_success have := b2); intro b2 w hb2 hst) | ((fail_if_success have := b3); intro b3 w hb3 hst) | (intro b4 w hb4 hst)))))
  refine (modulo_any _ _ _ (by decide) (by decide)).mono ?_
  rintro e w' ⟨rfl, rfl⟩
  go_upto_if 14 with (fail)
  go_cut [0] (fun y wx => y = .pointer (some ⟨fb, 0, none⟩) ∧ ∃ (h2 : TH) (kk : F TH) (p2 : Option Addr) (c2 : Nat), Hid (h2.kind % 4 = 1 ∧ TIn h2 ∧ FIn kk ∧ kk.len ≤ c2 ∧ Sl TS (fun b _ => b < B) w0 p2 kk ∧ (∀ h', TreeC h' kk)) ∧ St B [65, 9] w0 wx [(some b2, [.int .i64 0, .string ByteArray.empty, .string ByteArray.empty, .string ByteArray.empty, .int .i64 0, .slice none 0 0], 24), (some b1, [.int .i64 ho.kind, .string ho.v, .string ho.a, .string ho.t, .int .i64 ho.st, .slice po f.len co], 24), (some b0, [.int .i64 h2.kind, .string h2.v, .string h2.a, .string h2.t, .int .i64 h2.st, .slice p2 kk.len c2], 24), (some fb, [.int .i64 63, .int .i64 left, .slice (slP oid) n cap], 65), (oid, xs ++ sp, 9)])
  case first =>
    by_cases hk1 : h.kind % 4 = 1
    · have e1 : ((h.kind % 4) != 1) = false := by simp [hk1]
      have HK := Lib.hid hk1
      clear hk1
      go_wp2_with ((first | ((with_reducible refine at_load ?_); first | refine X1 hst ?_ | refine XW hst ?_) | ((with_reducible refine at_store ?_); (first | refine Y1 hst ?_ | refine YW hst ?_); clear hst; intro w hst) | ((first | ((with_reducible refine at_alloc ?_); refine ZP hst ?_) | ((with_reducible refine at_box ?_); refine ZP hst ?_) | ((with_reducible refine at_bslice ?_); refine ZS hst ?_)); clear hst; (first | ((fail_if_success have := b0); intro b0 w hb0 hst) | ((fail_if_success have := b1); intro b1 w hb1 hst) | ((fail_if_success have := b2); intro b2 w hb2 hst) | ((fail_if_success have := b3); intro b3 w hb3 hst) | (intro b4 w hb4 hst)))))
      go_meet
      case rel => exact ⟨rfl, h, k, p, c, Lib.hid ⟨HK.out, HA.out.2.1, HA.out.2.2.1, hc, HA.out.2.2.2.1, HT.out⟩, hst⟩
    · have e1 : ((h.kind % 4) != 1) = true := by simp [hk1]
      clear hk1
      go_wp2_with ((first | ((with_reducible refine at_load ?_); first | refine X1 hst ?_ | refine XW hst ?_) | ((with_reducible refine at_store ?_); (first | refine Y1 hst ?_ | refine YW hst ?_); clear hst; intro w hst) | ((first | ((with_reducible refine at_alloc ?_); refine ZP hst ?_) | ((with_reducible refine at_box ?_); refine ZP hst ?_) | ((with_reducible refine at_bslice ?_); refine ZS hst ?_)); clear hst; (first | ((fail_if_success have := b0); intro b0 w hb0 hst) | ((fail_if_success have := b1); intro b1 w hb1 hst) | ((fail_if_success have := b2); intro b2 w hb2 hst) | ((fail_if_success have := b3); intro b3 w hb3 hst) | (intro b4 w hb4 hst)))))
      go_meet
      case rel => exact ⟨rfl, ⟨1, h.v, ByteArray.empty, ByteArray.empty, 1⟩, .nil, none, 0, Lib.hid ⟨rfl, ⟨HA.out.2.1.1, Nat.zero_le _, Nat.zero_le _⟩, FIn.nil, Nat.le_refl _, .inl rfl, HN.out⟩, hst⟩
  case rest =>
  clear hst
  obtain ⟨rfl, h2, kk, p2, c2, H2, hst⟩ := hcut
  go_upto_region 4 with ((first | ((with_reducible refine at_load ?_); first | refine X1 hst ?_ | refine XW hst ?_) | ((with_reducible refine at_store ?_); (first | refine Y1 hst ?_ | refine YW hst ?_); clear hst; intro w hst) | ((first | ((with_reducible refine at_alloc ?_); refine ZP hst ?_) | ((with_reducible refine at_box ?_); refine ZP hst ?_) | ((with_reducible refine at_bslice ?_); refine ZS hst ?_)); clear hst; (first | ((fail_if_success have := b0); intro b0 w hb0 hst) | ((fail_if_success have := b1); intro b1 w hb1 hst) | ((fail_if_success have := b2); intro b2 w hb2 hst) | ((fail_if_success have := b3); intro b3 w hb3 hst) | (intro b4 w hb4 hst)))))
  go_frame
  have hbw := Lib.hid (hst.heap (b := fb) (by (repeat' (first | exact List.Mem.head _ | apply List.Mem.tail)); done))
  go_wp2_with (first | (go_at_call 43; refine (has_any _ fb left _ _ hbw.out (by omega)).mono ?_; rintro e w' ⟨rfl, rfl⟩) | (first | ((with_reducible refine at_load ?_); first | refine X1 hst ?_ | refine XW hst ?_) | ((with_reducible refine at_store ?_); (first | refine Y1 hst ?_ | refine YW hst ?_); clear hst; intro w hst) | ((first | ((with_reducible refine at_alloc ?_); refine ZP hst ?_) | ((with_reducible refine at_box ?_); refine ZP hst ?_) | ((with_reducible refine at_bslice ?_); refine ZS hst ?_)); clear hst; (first | ((fail_if_success have := b0); intro b0 w hb0 hst) | ((fail_if_success have := b1); intro b1 w hb1 hst) | ((fail_if_success have := b2); intro b2 w hb2 hst) | ((fail_if_success have := b3); intro b3 w hb3 hst) | (intro b4 w hb4 hst)))))
  have hcall := H2.out.2.2.2.2.2 ⟨h2.kind, h2.v, ⟨#[]⟩, ⟨#[]⟩, h2.st⟩ M B fb left oid n cap xs sp (level + 1) (ho.st == 2) p2 c2 _ ⟨hst.rebase (L' := [_, _]) (.cons _ (.cons _ (.cons _ (List.Sublist.refl _)))) rfl, HA.out.1.gr, HA.out.1.strs, HA.out.1.most, HA.out.1.mle⟩ hl hl2 (by omega) (by omega) ⟨H2.out.2.1.1, Nat.zero_le _, Nat.zero_le _⟩ H2.out.2.2.1 H2.out.2.2.2.1 (Sl.hold (Hold.kp hst.kp fun b t h => ⟨.inl h, h⟩) H2.out.2.2.2.2.1)
  refine Calls.mono hcall ?_
  clear hcall
  rintro e w1 ⟨⟨kd, v1, a1, t1, st1⟩, k', p', c', left', oid', n', cap', xs', sp', rfl, hsl, hcc, hok, h0, hsz, hF', hkey⟩
  obtain ⟨⟨e1, rfl, hs1, hs5, hv40, hpl⟩, rfl, ha0, ht0⟩ := hkey H2.out.1
  simp only at e1 hs1 hs5 hv40 hpl ha0 ht0
  subst e1
  obtain rfl : a1 = ByteArray.empty := empty_of (ha0 rfl)
  obtain rfl : t1 = ByteArray.empty := empty_of (ht0 rfl)
  replace hst := St.after (L1 := [_, _, _]) hst hF'.st rfl rfl (fun _ h => h)
  have hfso := HA.out.2.2.2.2.hold (A' := New lo) (Hold.kp hst.kp fun b t h => ⟨.inr ⟨by rw [h.2]; decide, List.not_mem_nil⟩, h⟩)
  have HF := Lib.hid (And.intro hF' (And.intro hpl hfso))
  clear hF' hsl hcc hok h0 hsz hkey ha0 ht0 hbw hpl hfso
  unfold tval
  simp only [List.cons_append, List.nil_append] at hst
  go_upto_region 7 with ((first | ((with_reducible refine at_load ?_); first | refine X1 hst ?_ | refine XW hst ?_) | ((with_reducible refine at_store ?_); (first | refine Y1 hst ?_ | refine YW hst ?_); clear hst; intro w hst) | ((first | ((with_reducible refine at_alloc ?_); refine ZP hst ?_) | ((with_reducible refine at_box ?_); refine ZP hst ?_) | ((with_reducible refine at_bslice ?_); refine ZS hst ?_)); clear hst; (first | ((fail_if_success have := b0); intro b0 w hb0 hst) | ((fail_if_success have := b1); intro b1 w hb1 hst) | ((fail_if_success have := b2); intro b2 w hb2 hst) | ((fail_if_success have := b3); intro b3 w hb3 hst) | (intro b4 w hb4 hst)))))
  go_frame
  have H1 := Lib.hid (And.intro hs1 (And.intro hs5 hv40))
  clear hs1 hs5 hv40
  go_cut [39] (fun y wx => w = wx ∧ ∃ b : Bool, y = .bool b ∧ (b = false → st1 ≤ 3))
  case first =>
    have c4 := hst.cell (b := b3) (off := 4) (by (repeat' (first | exact List.Mem.head _ | apply List.Mem.tail)); done) rfl
    by_cases h3 : 3 < st1
    · go_wp2_with ((first | ((with_reducible refine at_load ?_); first | refine X1 hst ?_ | refine XW hst ?_) | ((with_reducible refine at_store ?_); (first | refine Y1 hst ?_ | refine YW hst ?_); clear hst; intro w hst) | ((first | ((with_reducible refine at_alloc ?_); refine ZP hst ?_) | ((with_reducible refine at_box ?_); refine ZP hst ?_) | ((with_reducible refine at_bslice ?_); refine ZS hst ?_)); clear hst; (first | ((fail_if_success have := b0); intro b0 w hb0 hst) | ((fail_if_success have := b1); intro b1 w hb1 hst) | ((fail_if_success have := b2); intro b2 w hb2 hst) | ((fail_if_success have := b3); intro b3 w hb3 hst) | (intro b4 w hb4 hst)))))
      go_meet
      case rel => exact ⟨rfl, _, rfl, fun h => by simp at h⟩
    · go_wp2_with ((first | ((with_reducible refine at_load ?_); first | refine X1 hst ?_ | refine XW hst ?_) | ((with_reducible refine at_store ?_); (first | refine Y1 hst ?_ | refine YW hst ?_); clear hst; intro w hst) | ((first | ((with_reducible refine at_alloc ?_); refine ZP hst ?_) | ((with_reducible refine at_box ?_); refine ZP hst ?_) | ((with_reducible refine at_bslice ?_); refine ZS hst ?_)); clear hst; (first | ((fail_if_success have := b0); intro b0 w hb0 hst) | ((fail_if_success have := b1); intro b1 w hb1 hst) | ((fail_if_success have := b2); intro b2 w hb2 hst) | ((fail_if_success have := b3); intro b3 w hb3 hst) | (intro b4 w hb4 hst)))))
      go_meet
      case rel => exact ⟨rfl, _, rfl, fun h => by omega⟩
  case rest =>
  obtain ⟨rfl, b, rfl, hb⟩ := hcut
  have HB := Lib.hid hb
  clear hb
  go_upto_if 39 with (fail)
  go_cut [0] (fun y wx => y = .pointer (some ⟨fb, 0, none⟩) ∧ ∃ (st2 : Int) (v2 : ByteArray), Hid (1 ≤ st2 ∧ st2 ≤ 3 ∧ v2.size ≤ 40 ∧ (st2 = 1 → PlainOk v2)) ∧ St B [65, 9] w0 wx [(some b3, [.int .i64 1, .string v2, .string ByteArray.empty, .string ByteArray.empty, .int .i64 st2, .slice p' 0 c'], 24), (some b2, [.int .i64 0, .string ByteArray.empty, .string ByteArray.empty, .string ByteArray.empty, .int .i64 0, .slice none 0 0], 24), (some b1, [.int .i64 ho.kind, .string ho.v, .string ho.a, .string ho.t, .int .i64 ho.st, .slice po f.len co], 24), (some b0, [.int .i64 h2.kind, .string h2.v, .string ByteArray.empty, .string ByteArray.empty, .int .i64 h2.st, .slice p2 kk.len c2], 24), (some fb, [.int .i64 63, .int .i64 (left - 1), .slice (slP oid') n' cap'], 65), (oid', xs' ++ sp', 9)])
  case first =>
    cases b
    · go_wp2_with ((first | ((with_reducible refine at_load ?_); first | refine X1 hst ?_ | refine XW hst ?_) | ((with_reducible refine at_store ?_); (first | refine Y1 hst ?_ | refine YW hst ?_); clear hst; intro w hst) | ((first | ((with_reducible refine at_alloc ?_); refine ZP hst ?_) | ((with_reducible refine at_box ?_); refine ZP hst ?_) | ((with_reducible refine at_bslice ?_); refine ZS hst ?_)); clear hst; (first | ((fail_if_success have := b0); intro b0 w hb0 hst) | ((fail_if_success have := b1); intro b1 w hb1 hst) | ((fail_if_success have := b2); intro b2 w hb2 hst) | ((fail_if_success have := b3); intro b3 w hb3 hst) | (intro b4 w hb4 hst)))))
      go_meet
      case rel => exact ⟨rfl, st1, v1, Lib.hid ⟨H1.out.1, (by simpa using HB.out), H1.out.2.2, HF.out.2.1⟩, hst⟩
    · go_wp2_with ((first | ((with_reducible refine at_load ?_); first | refine X1 hst ?_ | refine XW hst ?_) | ((with_reducible refine at_store ?_); (first | refine Y1 hst ?_ | refine YW hst ?_); clear hst; intro w hst) | ((first | ((with_reducible refine at_alloc ?_); refine ZP hst ?_) | ((with_reducible refine at_box ?_); refine ZP hst ?_) | ((with_reducible refine at_bslice ?_); refine ZS hst ?_)); clear hst; (first | ((fail_if_success have := b0); intro b0 w hb0 hst) | ((fail_if_success have := b1); intro b1 w hb1 hst) | ((fail_if_success have := b2); intro b2 w hb2 hst) | ((fail_if_success have := b3); intro b3 w hb3 hst) | (intro b4 w hb4 hst)))))
      go_meet
      case rel => exact ⟨rfl, 3, v1, Lib.hid ⟨by decide, by decide, H1.out.2.2, fun h => absurd h (by decide)⟩, hst⟩
  case rest =>
  clear hst
  clear HB H1
  obtain ⟨rfl, st2, v2, hs2, hst⟩ := hcut
  go_wp2_with ((first | ((with_reducible refine at_load ?_); first | refine X1 hst ?_ | refine XW hst ?_) | ((with_reducible refine at_store ?_); (first | refine Y1 hst ?_ | refine YW hst ?_); clear hst; intro w hst) | ((first | ((with_reducible refine at_alloc ?_); refine ZP hst ?_) | ((with_reducible refine at_box ?_); refine ZP hst ?_) | ((with_reducible refine at_bslice ?_); refine ZS hst ?_)); clear hst; (first | ((fail_if_success have := b0); intro b0 w hb0 hst) | ((fail_if_success have := b1); intro b1 w hb1 hst) | ((fail_if_success have := b2); intro b2 w hb2 hst) | ((fail_if_success have := b3); intro b3 w hb3 hst) | (intro b4 w hb4 hst)))))
  refine (hollow_any _ _ _ _ _ _ _ _ _).mono ?_
  rintro e w1 ⟨rfl, hb⟩
  replace hst := hst.below hb
  clear hb
  generalize hollowB 1 st2 v2 = b
  go_upto_if 42 with (fail)
  go_cut [0] (fun y wx => y = .pointer (some ⟨fb, 0, none⟩) ∧ ∃ (st2 : Int) (v2 : ByteArray), Hid (1 ≤ st2 ∧ st2 ≤ 3 ∧ v2.size ≤ 40 ∧ (st2 = 1 → PlainOk v2)) ∧ St B [65, 9] w0 wx [(some b3, [.int .i64 1, .string v2, .string ByteArray.empty, .string ByteArray.empty, .int .i64 st2, .slice p' 0 c'], 24), (some b2, [.int .i64 0, .string ByteArray.empty, .string ByteArray.empty, .string ByteArray.empty, .int .i64 0, .slice none 0 0], 24), (some b1, [.int .i64 ho.kind, .string ho.v, .string ho.a, .string ho.t, .int .i64 ho.st, .slice po f.len co], 24), (some b0, [.int .i64 h2.kind, .string h2.v, .string ByteArray.empty, .string ByteArray.empty, .int .i64 h2.st, .slice p2 kk.len c2], 24), (some fb, [.int .i64 63, .int .i64 (left - 1), .slice (slP oid') n' cap'], 65), (oid', xs' ++ sp', 9)])
  case first =>
    cases b
    · go_wp2_with ((first | ((with_reducible refine at_load ?_); first | refine X1 hst ?_ | refine XW hst ?_) | ((with_reducible refine at_store ?_); (first | refine Y1 hst ?_ | refine YW hst ?_); clear hst; intro w hst) | ((first | ((with_reducible refine at_alloc ?_); refine ZP hst ?_) | ((with_reducible refine at_box ?_); refine ZP hst ?_) | ((with_reducible refine at_bslice ?_); refine ZS hst ?_)); clear hst; (first | ((fail_if_success have := b0); intro b0 w hb0 hst) | ((fail_if_success have := b1); intro b1 w hb1 hst) | ((fail_if_success have := b2); intro b2 w hb2 hst) | ((fail_if_success have := b3); intro b3 w hb3 hst) | (intro b4 w hb4 hst)))))
      go_meet
      case rel => exact ⟨rfl, st2, v2, hs2, hst⟩
    · go_wp2_with ((first | ((with_reducible refine at_load ?_); first | refine X1 hst ?_ | refine XW hst ?_) | ((with_reducible refine at_store ?_); (first | refine Y1 hst ?_ | refine YW hst ?_); clear hst; intro w hst) | ((first | ((with_reducible refine at_alloc ?_); refine ZP hst ?_) | ((with_reducible refine at_box ?_); refine ZP hst ?_) | ((with_reducible refine at_bslice ?_); refine ZS hst ?_)); clear hst; (first | ((fail_if_success have := b0); intro b0 w hb0 hst) | ((fail_if_success have := b1); intro b1 w hb1 hst) | ((fail_if_success have := b2); intro b2 w hb2 hst) | ((fail_if_success have := b3); intro b3 w hb3 hst) | (intro b4 w hb4 hst)))))
      go_meet
      case rel => exact ⟨rfl, st2, ⟨#[101]⟩, Lib.hid ⟨hs2.out.1, hs2.out.2.1, by decide, fun _ => plain_e⟩, hst⟩
  case rest =>
  clear hst hs2 st2 v2
  obtain ⟨rfl, st2, v2, hs2, hst⟩ := hcut
  go_wp2_with (fail)
  go_loopw [10] (fun i wx => ∃ j : Nat, i = .int .i64 j ∧ ∃ (st2 : Int) (v2 : ByteArray), Hid (j ≤ 7 ∧ (∀ m, m + 1 < j → nm m ∈ tops f) ∧ (0 < j → v2 = nm (j - 1)) ∧ 1 ≤ st2 ∧ st2 ≤ 3 ∧ v2.size ≤ 40 ∧ (st2 = 1 → PlainOk v2)) ∧ Hid (St B [65, 9] w0 wx [(some b3, [.int .i64 1, .string v2, .string ByteArray.empty, .string ByteArray.empty, .int .i64 st2, .slice p' 0 c'], 24), (some b2, [.int .i64 0, .string ByteArray.empty, .string ByteArray.empty, .string ByteArray.empty, .int .i64 0, .slice none 0 0], 24), (some b1, [.int .i64 ho.kind, .string ho.v, .string ho.a, .string ho.t, .int .i64 ho.st, .slice po f.len co], 24), (some b0, [.int .i64 h2.kind, .string h2.v, .string ByteArray.empty, .string ByteArray.empty, .int .i64 h2.st, .slice p2 kk.len c2], 24), (some fb, [.int .i64 63, .int .i64 (left - 1), .slice (slP oid') n' cap'], 65), (oid', xs' ++ sp', 9)])) (fun i _ => 8 - (intOf i).toNat)
  case atStart => exact ⟨0, rfl, st2, v2, Lib.hid ⟨by decide, fun m h => absurd h (by omega), fun h => absurd h (by decide), hs2.out⟩, Lib.hid hst⟩
  case round =>
    clear hst hs2 st2 v2
    obtain ⟨j, rfl, st2, v2, hs2, hst2⟩ := hrel
    have hst := hst2.out
    clear hst2
    have c0 := hst.cell (b := b3) (off := 0) (by (repeat' (first | exact List.Mem.head _ | apply List.Mem.tail)); done) rfl
    have c1 := hst.cell (b := b3) (off := 1) (by (repeat' (first | exact List.Mem.head _ | apply List.Mem.tail)); done) rfl
    have d0 := hst.cell (b := b1) (off := 0) (by (repeat' (first | exact List.Mem.head _ | apply List.Mem.tail)); done) rfl
    have d1 := hst.cell (b := b1) (off := 1) (by (repeat' (first | exact List.Mem.head _ | apply List.Mem.tail)); done) rfl
    have d2 := hst.cell (b := b1) (off := 2) (by (repeat' (first | exact List.Mem.head _ | apply List.Mem.tail)); done) rfl
    have d3 := hst.cell (b := b1) (off := 3) (by (repeat' (first | exact List.Mem.head _ | apply List.Mem.tail)); done) rfl
    have d4 := hst.cell (b := b1) (off := 4) (by (repeat' (first | exact List.Mem.head _ | apply List.Mem.tail)); done) rfl
    have d5 := hst.cell (b := b1) (off := 5) (by (repeat' (first | exact List.Mem.head _ | apply List.Mem.tail)); done) rfl
    go_wp2_with ((first | ((with_reducible refine at_load ?_); first | refine X1 hst ?_ | refine XW hst ?_) | ((with_reducible refine at_store ?_); (first | refine Y1 hst ?_ | refine YW hst ?_); clear hst; intro w hst) | ((first | ((with_reducible refine at_alloc ?_); refine ZP hst ?_) | ((with_reducible refine at_box ?_); refine ZP hst ?_) | ((with_reducible refine at_bslice ?_); refine ZS hst ?_)); clear hst; (first | ((fail_if_success have := b0); intro b0 w hb0 hst) | ((fail_if_success have := b1); intro b1 w hb1 hst) | ((fail_if_success have := b2); intro b2 w hb2 hst) | ((fail_if_success have := b3); intro b3 w hb3 hst) | (intro b4 w hb4 hst)))))
    refine (keyed_any ho f po co v2 _ (HA.out.2.2.2.2.hold (A' := New lo) (Hold.kp hst.kp fun b t h => ⟨.inr ⟨by rw [h.2]; decide, List.not_mem_nil⟩, h⟩)) (by omega)).mono ?_
    rintro e w1 ⟨b, hb, rfl, hw⟩
    replace hst := hst.below hw
    have HB := Lib.hid hb
    clear hb hw c0 c1 d0 d1 d2 d3 d4 d5
    cases b
    · go_wp2_with ((first | ((with_reducible refine at_load ?_); first | refine X1 hst ?_ | refine XW hst ?_) | ((with_reducible refine at_store ?_); (first | refine Y1 hst ?_ | refine YW hst ?_); clear hst; intro w hst) | ((first | ((with_reducible refine at_alloc ?_); refine ZP hst ?_) | ((with_reducible refine at_box ?_); refine ZP hst ?_) | ((with_reducible refine at_bslice ?_); refine ZS hst ?_)); clear hst; (first | ((fail_if_success have := b0); intro b0 w hb0 hst) | ((fail_if_success have := b1); intro b1 w hb1 hst) | ((fail_if_success have := b2); intro b2 w hb2 hst) | ((fail_if_success have := b3); intro b3 w hb3 hst) | (intro b4 w hb4 hst)))))
      refine ret_cell hst rfl rfl (by (repeat' (first | exact List.Mem.head _ | apply List.Mem.tail)); done) (by exact agg_of rfl rfl) rfl ?_
      refine ⟨⟨1, v2, ByteArray.empty, ByteArray.empty, st2⟩, p', c', oid', n', cap', xs', sp', rfl, ⟨⟨rfl, rfl, hs2.out.2.2.2.1, by have := hs2.out.2.2.2.2.1; simp only; omega, hs2.out.2.2.2.2.2.1, hs2.out.2.2.2.2.2.2⟩, hs2.out.2.2.2.2.1, rfl, rfl⟩, ⟨hst.sub (.cons _ (.cons _ (.cons _ (.cons _ (List.Sublist.refl _))))), HF.out.1.gr, HF.out.1.strs, HF.out.1.most, HF.out.1.mle⟩⟩
    · have hj : j ≤ 6 ∧ (∀ m, m < j → nm m ∈ tops f) := by
        obtain ⟨h7, hm, hv, -⟩ := hs2.out
        have h2 : ∀ m, m < j → nm m ∈ tops f := fun m hmj => by
          by_cases e : m + 1 < j
          · exact hm m e
          · have e2 : m = j - 1 := by omega
            rw [e2, ← hv (by omega)]
            exact HB.out rfl
        refine ⟨?_, h2⟩
        have := pigeon j nm (tops f) (fun a b ha hb => nm_inj (by omega) (by omega)) h2
        rw [tops_len] at this
        omega
      obtain ⟨hj6, hjm⟩ := hj
      have HJ := Lib.hid hjm
      clear hjm hs2 HB
      have hcase : j = 0 ∨ j = 1 ∨ j = 2 ∨ j = 3 ∨ j = 4 ∨ j = 5 ∨ j = 6 := by omega
      clear hj6
      rcases hcase with rfl | rfl | rfl | rfl | rfl | rfl | rfl
      all_goals
        go_wp2_with ((first | ((with_reducible refine at_load ?_); first | refine X1 hst ?_ | refine XW hst ?_) | ((with_reducible refine at_store ?_); (first | refine Y1 hst ?_ | refine YW hst ?_); clear hst; intro w hst) | ((first | ((with_reducible refine at_alloc ?_); refine ZP hst ?_) | ((with_reducible refine at_box ?_); refine ZP hst ?_) | ((with_reducible refine at_bslice ?_); refine ZS hst ?_)); clear hst; (first | ((fail_if_success have := b0); intro b0 w hb0 hst) | ((fail_if_success have := b1); intro b1 w hb1 hst) | ((fail_if_success have := b2); intro b2 w hb2 hst) | ((fail_if_success have := b3); intro b3 w hb3 hst) | (intro b4 w hb4 hst)))))
        go_round
        case rel => first | exact ⟨1, rfl, 1, nm 0, Lib.hid ⟨by decide, fun m hm => HJ.out m (by omega), fun _ => rfl, by decide, by decide, by decide, fun _ => plain_nm _⟩, Lib.hid hst⟩ | exact ⟨2, rfl, 1, nm 1, Lib.hid ⟨by decide, fun m hm => HJ.out m (by omega), fun _ => rfl, by decide, by decide, by decide, fun _ => plain_nm _⟩, Lib.hid hst⟩ | exact ⟨3, rfl, 1, nm 2, Lib.hid ⟨by decide, fun m hm => HJ.out m (by omega), fun _ => rfl, by decide, by decide, by decide, fun _ => plain_nm _⟩, Lib.hid hst⟩ | exact ⟨4, rfl, 1, nm 3, Lib.hid ⟨by decide, fun m hm => HJ.out m (by omega), fun _ => rfl, by decide, by decide, by decide, fun _ => plain_nm _⟩, Lib.hid hst⟩ | exact ⟨5, rfl, 1, nm 4, Lib.hid ⟨by decide, fun m hm => HJ.out m (by omega), fun _ => rfl, by decide, by decide, by decide, fun _ => plain_nm _⟩, Lib.hid hst⟩ | exact ⟨6, rfl, 1, nm 5, Lib.hid ⟨by decide, fun m hm => HJ.out m (by omega), fun _ => rfl, by decide, by decide, by decide, fun _ => plain_nm _⟩, Lib.hid hst⟩ | exact ⟨7, rfl, 1, nm 6, Lib.hid ⟨by decide, fun m hm => HJ.out m (by omega), fun _ => rfl, by decide, by decide, by decide, fun _ => plain_nm _⟩, Lib.hid hst⟩
        case measure => simp [intOf]
end Go.Proofs.YtpajcfkldnbpfaaGreatDoor
namespace Go.Proofs.YtpajcfkldnbpfaaGreatDoor
open Go.RowKit
section
variable {P : Program} {ops : Array Oper} {Q : Exit → Act → World → Prop} {B : Nat} {Ts : Ch} {w0 w : World} {L L1 : Rws} {a : Act} {i : Nat} {p : Plan} {o : Oper} {S : World → Prop}
theorem St.perm {L' : Rws} (h : St B Ts w0 w L) (hp : L.Perm L') : St B Ts w0 w L' :=
  ⟨h.kp, h.base, fun b l t hm => h.rows b l t (hp.mem_iff.2 hm), (hp.pairwise_iff (fun {x y} hxy b hb hc => hxy b hc hb)).1 h.ne⟩
theorem St.watchP {L2 : Rws} (h : St B Ts w0 w (L1 ++ L2)) {bs : List Nat} (hbs : L1.filterMap (·.1) = bs) (ht : (L2.all fun x => Ts.ts.contains x.2.2) = true) : St B ⟨Ts.ts, bs⟩ w w (L1 ++ L2) :=
  h.watch bs fun b l t hm => by
    rcases List.mem_append.1 hm with hm | hm
    · exact .inr (by rw [← hbs]; exact List.mem_filterMap.2 ⟨_, hm, rfl⟩)
    · exact .inl (by simpa using List.all_eq_true.1 ht _ hm)
def WQ (P : Program) (ops : Array Oper) (Q : Exit → Act → World → Prop) (S : World → Prop) (o : Oper) (p : Plan) (a : Act) (w : World) : Prop := ∃ v, YieldsIf P ops S o v a ∧ wpP P ops Q S p (a.put o.dst v) w
def WE (P : Program) (ops : Array Oper) (Q : Exit → Act → World → Prop) (S : World → Prop) (o : Oper) (k : Bool) (p : Plan) (a : Act) (w : World) : Prop := o.wp P a w (fun a' w' => (k = true → S w') ∧ wpP P ops Q S p a' w') Q
theorem at_q (ho : ops[i]? = some o) (h : WQ P ops Q S o p a w) : wpP P ops Q S (.q i p) a w := by
  obtain ⟨v, h1, h2⟩ := h
  exact ⟨o, v, ho, h1, h2⟩
theorem at_e {k : Bool} (ho : ops[i]? = some o) (hg : o.guard = none) (h : WE P ops Q S o k p a w) : wpP P ops Q S (.e i k p) a w := wpOp_of_wp ho hg h
theorem at_e2 {k l : Bool} {j : Nat} {r : Plan} {o2 : Oper} (ho : ops[i]? = some o) (hg : o.guard = none) (ho2 : ops[j]? = some o2) (hg2 : o2.guard = none) (h : WE P ops Q S o k p a w) (h2 : WE P ops Q S o2 l r a w) : wpP P ops Q S (.e2 i k p j l r) a w :=
  ⟨wpOp_of_wp ho hg h, wpOp_of_wp ho2 hg2 h2⟩
theorem q_val {v : Value} (hg : o.guard = none) (hy : ∀ w, S w → (execOp a.eval o).run P w = .ok (.value v) w) (h : wpP P ops Q S p (a.put o.dst v) w) : WQ P ops Q S o p a w :=
  ⟨v, .inl ⟨by simp [Region.wanted, hg], hy⟩, h⟩
theorem e_val {k : Bool} {w' : World} {v : Value} (hr : (execOp a.eval o).run P w = .ok (.value v) w') (hS : k = true → S w') (h : wpP P ops Q S p (a.put o.dst v) w') : WE P ops Q S o k p a w := by
  unfold WE Oper.wp; rw [hr]; exact ⟨hS, h⟩
theorem e_skip {k : Bool} {w' : World} (hr : (execOp a.eval o).run P w = .ok .skip w') (hS : k = true → S w') (h : wpP P ops Q S p (a.put o.dst undef) w') : WE P ops Q S o k p a w := by
  unfold WE Oper.wp; rw [hr]; exact ⟨hS, h⟩
theorem e_call {k : Bool} {w' : World} {f : FuncId} {args : Array Value} {R : Ending → World → Prop} (hr : (execOp a.eval o).run P w = .ok (.enter f args) w')
    (hc : Calls P f args w' R) (h : ∀ e w2, R e w2 → ∃ v, e = .returned v ∧ (k = true → S w2) ∧ wpP P ops Q S p (a.put o.dst v) w2) : WE P ops Q S o k p a w := by
  unfold WE Oper.wp
  rw [hr]
  refine hc.mono fun e w2 he => ?_
  obtain ⟨v, rfl, h1, h2⟩ := h e w2 he
  exact ⟨h1, h2⟩
theorem p_st1 {T : Nat} {x : Operand} {b off : Nat} {l : List Value} {t : Nat} {v : Value} (hg : o.guard = none) (hop : o.op = .load T x) (hx : a.eval x = .pointer (some ⟨b, off, none⟩)) (hm : (some b, l, t) ∈ L1) (hT : oneOf P T = true) (hv : l[off]? = some v)
    (h : wpP P ops Q (fun w => St B Ts w0 w L1) p (a.put o.dst v) w) : WQ P ops Q (fun w => St B Ts w0 w L1) o p a w :=
  q_val hg (fun _ hS => ld_one hS hop hx hm hT hv) h
theorem p_stw {T : Nat} {x : Operand} {b : Nat} {l : List Value} {t : Nat} (hg : o.guard = none) (hop : o.op = .load T x) (hx : a.eval x = .pointer (some ⟨b, 0, none⟩)) (hm : (some b, l, t) ∈ L1) (hT : aggOf P T l.length = true)
    (h : wpP P ops Q (fun w => St B Ts w0 w L1) p (a.put o.dst (.agg l.toArray)) w) : WQ P ops Q (fun w => St B Ts w0 w L1) o p a w :=
  q_val hg (fun _ hS => ld_whole hS hop hx hm hT) h
theorem AQ (h : WQ P ops Q S o p a w) (ho : ops[i]? = some o := by simp only [List.getElem?_toArray, List.getElem?_cons_succ, List.getElem?_cons_zero]; rfl) : wpP P ops Q S (.q i p) a w := at_q ho h
theorem Q1 {T : Nat} {x : Operand} {b off : Nat} {l : List Value} {t : Nat} {v : Value} (h : wpP P ops Q (fun w => St B Ts w0 w L1) p (a.put o.dst v) w)
    (hg : o.guard = none := by exact rfl) (hop : o.op = .load T x := by exact rfl) (hx : a.eval x = .pointer (some ⟨b, off, none⟩) := by exact rfl) (hm : (some b, l, t) ∈ L1 := by (repeat' (first | exact List.Mem.head _ | apply List.Mem.tail)); done) (hT : oneOf P T = true := by exact one_of (by decide +kernel)) (hv : l[off]? = some v := by exact rfl) : WQ P ops Q (fun w => St B Ts w0 w L1) o p a w := p_st1 hg hop hx hm hT hv h
theorem QW {T : Nat} {x : Operand} {b : Nat} {l : List Value} {t : Nat} (h : wpP P ops Q (fun w => St B Ts w0 w L1) p (a.put o.dst (.agg l.toArray)) w)
    (hg : o.guard = none := by exact rfl) (hop : o.op = .load T x := by exact rfl) (hx : a.eval x = .pointer (some ⟨b, 0, none⟩) := by exact rfl) (hm : (some b, l, t) ∈ L1 := by (repeat' (first | exact List.Mem.head _ | apply List.Mem.tail)); done) (hT : aggOf P T l.length = true := by exact agg_of rfl rfl) : WQ P ops Q (fun w => St B Ts w0 w L1) o p a w := p_stw hg hop hx hm hT h
theorem QV {v : Value} (h : wpP P ops Q S p (a.put o.dst v) w) (hg : o.guard = none := by exact rfl) (hy : ∀ w, S w → (execOp a.eval o).run P w = .ok (.value v) w := by intro w' hS; go_simp; rfl) : WQ P ops Q S o p a w := q_val hg hy h
theorem p_ldc {T : Nat} {x : Operand} {b off : Nat} {vs : List Value} (hc : ∀ w, S w → ∀ j v, vs[j]? = some v → w.cell? ⟨b, off + j, none⟩ = some v) (hg : o.guard = none) (hop : o.op = .load T x) (hx : a.eval x = .pointer (some ⟨b, off, none⟩)) (hT : aggOf P T vs.length = true)
    (h : wpP P ops Q S p (a.put o.dst (.agg vs.toArray)) w) : WQ P ops Q S o p a w :=
  q_val hg (fun w hS => ld_cells hop hx hT (hc w hS)) h
theorem p_ldc1 {T : Nat} {x : Operand} {q : Addr} {v : Value} (hc : ∀ w, S w → w.cell? q = some v) (hg : o.guard = none) (hop : o.op = .load T x) (hx : a.eval x = .pointer (some q)) (hT : oneOf P T = true)
    (h : wpP P ops Q S p (a.put o.dst v) w) : WQ P ops Q S o p a w :=
  q_val hg (fun w hS => ld_cell hop hx hT (hc w hS)) h
theorem p_new {k : Bool} (hst : St B Ts w0 w L) {l : List Value} {t : Nat} (hr : (execOp a.eval o).run P w = .ok (.value (.pointer (some ⟨w.heap.size, 0, none⟩))) (w.alloc (.cells l.toArray t)))
    (h : ∀ b w', w0.heap.size ≤ b → St B Ts w0 w' ((some b, l, t) :: L) → (k = true → S w') ∧ wpP P ops Q S p (a.put o.dst (.pointer (some ⟨b, 0, none⟩))) w') : WE P ops Q S o k p a w := by
  obtain ⟨h1, h2⟩ := h _ _ hst.kp.size (hst.new l t)
  exact e_val hr h1 h2
theorem p_newS {k : Bool} (hst : St B Ts w0 w L) {l : List Value} {t n c : Nat} (hr : (execOp a.eval o).run P w = .ok (.value (.slice (some ⟨w.heap.size, 0, none⟩) n c)) (w.alloc (.cells l.toArray t)))
    (h : ∀ b w', w0.heap.size ≤ b → St B Ts w0 w' ((some b, l, t) :: L) → (k = true → S w') ∧ wpP P ops Q S p (a.put o.dst (.slice (some ⟨b, 0, none⟩) n c)) w') : WE P ops Q S o k p a w := by
  obtain ⟨h1, h2⟩ := h _ _ hst.kp.size (hst.new l t)
  exact e_val hr h1 h2
theorem p_one {k : Bool} (hst : St B Ts w0 w L) {T : Nat} {x y : Operand} {b off : Nat} {v : Value} {L' : Rws} (hop : o.op = .store T x y) (hx : a.eval x = .pointer (some ⟨b, off, none⟩)) (hy : a.eval y = v)
    (hu : UpdOne L b off v L') (hs : szOf P T 1 = true) (h1 : v.oneCell' = true) (h : ∀ w', St B Ts w0 w' L' → (k = true → S w') ∧ wpP P ops Q S p (a.put o.dst undef) w') : WE P ops Q S o k p a w := by
  obtain ⟨j, l, t, hi, hl, rfl⟩ := hu.spec
  obtain ⟨w', hr, h2⟩ := st_one hst hop hx hy hi hs hl h1
  obtain ⟨h3, h4⟩ := h w' h2
  exact e_skip hr h3 h4
theorem p_whole {k : Bool} (hst : St B Ts w0 w L) {T : Nat} {x y : Operand} {b : Nat} {l vs : List Value} {t : Nat} {L' : Rws} (hop : o.op = .store T x y) (hx : a.eval x = .pointer (some ⟨b, 0, none⟩)) (hy : a.eval y = .agg vs.toArray)
    (hu : Upd L b l t vs L') (hs : szOf P T vs.length = true) (hl : l.length = vs.length) (h1 : (vs.all Value.oneCell') = true) (h : ∀ w', St B Ts w0 w' L' → (k = true → S w') ∧ wpP P ops Q S p (a.put o.dst undef) w') : WE P ops Q S o k p a w := by
  obtain ⟨j, hi, rfl⟩ := hu.spec
  obtain ⟨w', hr, h2⟩ := st_whole hst hop hx hy hi hs hl h1
  obtain ⟨h3, h4⟩ := h w' h2
  exact e_skip hr h3 h4
theorem E1 {k : Bool} (hst : St B Ts w0 w L) {T : Nat} {x y : Operand} {b off : Nat} {v : Value} {L' : Rws} (h : ∀ w', St B Ts w0 w' L' → (k = true → S w') ∧ wpP P ops Q S p (a.put o.dst undef) w')
    (hop : o.op = .store T x y := by exact rfl) (hx : a.eval x = .pointer (some ⟨b, off, none⟩) := by exact rfl) (hy : a.eval y = v := by first | exact (rfl : _ = Value.int _ _) | exact (rfl : _ = Value.string _) | exact (rfl : _ = Value.bool _) | exact (rfl : _ = Value.pointer _) | exact (rfl : _ = Value.slice _ _ _) | exact (rfl : _ = Value.iface _ _) | exact (rfl : _ = Value.nilIface) | exact (rfl : _ = Value.float _ _)) (hu : UpdOne L b off v L' := by (repeat' (first | exact Rep.here | apply Rep.there | apply UpdOne.head | apply UpdOne.tail)); done) (hs : szOf P T 1 = true := by exact sz1_of (by decide +kernel)) (h1 : v.oneCell' = true := by exact rfl) : WE P ops Q S o k p a w := p_one hst hop hx hy hu hs h1 h
theorem EW {k : Bool} (hst : St B Ts w0 w L) {T : Nat} {x y : Operand} {b : Nat} {l vs : List Value} {t : Nat} {L' : Rws} (h : ∀ w', St B Ts w0 w' L' → (k = true → S w') ∧ wpP P ops Q S p (a.put o.dst undef) w')
    (hop : o.op = .store T x y := by exact rfl) (hx : a.eval x = .pointer (some ⟨b, 0, none⟩) := by exact rfl) (hy : a.eval y = .agg vs.toArray := by exact rfl) (hu : Upd L b l t vs L' := by (repeat' (first | exact Upd.head | apply Upd.tail)); done) (hs : szOf P T vs.length = true := by exact szn_of rfl rfl) (hl : l.length = vs.length := by exact rfl) (h1 : (vs.all Value.oneCell') = true := by exact rfl) : WE P ops Q S o k p a w := p_whole hst hop hx hy hu hs hl h1 h
theorem p_appH {k : Bool} {s x : Operand} {t e sz by_ n cap m b t' : Nat} {oid : Option Nat} {xs sp news : List Value} (hst : St B Ts w0 w ((some b, news, t') :: (oid, xs ++ sp, e) :: L)) (hop : o.op = .call { callee := .builtin .append, args := #[s, x], argTypes := #[t, t] })
    (hs : a.eval s = .slice (slP oid) n cap) (hx : a.eval x = .slice (some ⟨b, 0, none⟩) m m) (he : elOf P t e sz by_ = true) (hgr : Gr sz oid n cap xs sp) (hsz : 0 < sz)
    (hm : 0 < m) (hl : news.length = m * sz) (h1 : (news.all Value.oneCell') = true) (hby : (n + m) * by_ ≤ 140737488355328) (h63 : n + m ≤ maxLen)
    (h : ∀ oid' cap' sp' w', St B Ts w0 w' ((oid', (xs ++ news) ++ sp', e) :: L) → Gr sz oid' (n + m) cap' (xs ++ news) sp' → oid' ≠ none → (k = true → S w') ∧ wpP P ops Q S p (a.put o.dst (.slice (slP oid') (n + m) cap')) w') : WE P ops Q S o k p a w := by
  obtain ⟨oid', cap', sp', w', hr, h2, h3, h4⟩ := run_appH (ty := o.type) hst he hgr hsz hm hl h1 hby h63
  obtain ⟨h5, h6⟩ := h oid' cap' sp' w' h2 h3 h4
  exact e_val (ex_app hop hs hx hr) h5 h6
end
end Go.Proofs.YtpajcfkldnbpfaaGreatDoor
