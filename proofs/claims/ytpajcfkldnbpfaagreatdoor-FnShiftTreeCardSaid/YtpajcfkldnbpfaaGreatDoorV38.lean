/- shortFloat. Bytes that are written behind one another; setDigits. fmtEFG. -/
import Derived.Test.YtpajcfkldnbpfaaGreatDoorV37
import Derived.Deep.CutBlock
set_option linter.unusedSimpArgs false
set_option linter.unusedVariables false
namespace Go.Proofs.YtpajcfkldnbpfaaGreatDoor
open Go.RowKit
theorem and1i (n : Nat) (h : n < 4611686018427387904) : bits BinOp.and IntKind.i64 (n : Int) 1 = (n : Int) % 2 :=
  bits_mask .i64 62 (by decide) (fun n h0 h1 => IntWalk.i64_in n ⟨by omega, by have e : (2 : Int) ^ 62 = 4611686018427387904 := by decide
                                                                               omega⟩) 1 (by decide) (n : Int) (by omega) (by have e : (2 : Int) ^ 62 = 4611686018427387904 := by decide
                                                                                                                              omega)
theorem nudge_any (u δ : Int) (w : World) : Calls Tryz.prog 169 #[.int .u64 u, .int .i64 δ] w fun e w' => e = .returned (.int .u64 (IntKind.u64.wrap (u + IntKind.u64.wrap δ))) ∧ w = w' := by
  go_enter Tryz.func169, Tryz.ntmps169
  go_wp2
  exact ret_tmp rfl rfl rfl ⟨rfl, rfl⟩
theorem ceil_any (u : Int) (w : World) : Calls Tryz.prog 170 #[.int .u64 u] w fun e w' => e = .returned (.int .u64 (IntKind.u64.wrap (u + 3) / 4)) ∧ w = w' := by
  go_enter Tryz.func170, Tryz.ntmps170
  go_wp2
  exact ret_tmp rfl rfl rfl ⟨rfl, rfl⟩
theorem floor_any (u : Int) (w : World) : Calls Tryz.prog 171 #[.int .u64 u] w fun e w' => e = .returned (.int .u64 (IntKind.u64.wrap u / 4)) ∧ w = w' := by
  go_enter Tryz.func171, Tryz.ntmps171
  go_wp2
  exact ret_tmp rfl rfl rfl ⟨rfl, rfl⟩
theorem l10_any (x : Int) (h : -2000 ≤ x ∧ x ≤ 2000) (w : World) : Calls Tryz.prog 133 #[.int .i64 x] w fun e w' => e = .returned (.int .i64 (x * 78913 / 262144)) ∧ w = w' := by
  have h1 : IntKind.i64.wrap (x * 78913) = x * 78913 := IntWalk.i64_in _ (by omega)
  go_enter Tryz.func133, Tryz.ntmps133
  go_wp2
  exact ret_tmp rfl rfl rfl ⟨rfl, rfl⟩
theorem skew_any (x : Int) (h : -2000 ≤ x ∧ x ≤ 2000) (w : World) : Calls Tryz.prog 165 #[.int .i64 x] w fun e w' => e = .returned (.int .i64 ((x * 631305 - 261663) / 2097152)) ∧ w = w' := by
  have h1 : IntKind.i64.wrap (x * 631305) = x * 631305 := IntWalk.i64_in _ (by omega)
  have h2 : IntKind.i64.wrap (x * 631305 - 261663) = x * 631305 - 261663 := IntWalk.i64_in _ (by omega)
  go_enter Tryz.func165, Tryz.ntmps165
  go_wp2
  exact ret_tmp rfl rfl rfl ⟨rfl, rfl⟩
def SwR (e : Int) (p mn mx od : Value) : Prop := ∃ (i a b o s : Nat), p = .int .i64 ((i : Int) - 348) ∧ i < 696 ∧ (mn = .int .u64 a ∧ 4611686018427387904 ≤ a ∧ a < 18446744073709551616) ∧ (mx = .int .u64 b ∧ b < 18446744073709551616) ∧ (od = .int .i64 o ∧ o ≤ 1) ∧ (4 ≤ s ∧ s ≤ 58) ∧ -(e + ((i : Int) - 348) * 108853 / 32768 + 3) = s
theorem SwR.mk {e p mn mx od : Int} {i s : Nat} (hp : p = (i : Int) - 348) (hi : i < 696) (h1 : 4611686018427387904 ≤ mn ∧ mn < 18446744073709551616) (h2 : 0 ≤ mx ∧ mx < 18446744073709551616) (h3 : 0 ≤ od ∧ od ≤ 1) (hs : 4 ≤ s ∧ s ≤ 58) (hs2 : -(e + ((i : Int) - 348) * 108853 / 32768 + 3) = s) : SwR e (.int .i64 p) (.int .u64 mn) (.int .u64 mx) (.int .i64 od) :=
  ⟨i, mn.toNat, mx.toNat, od.toNat, s, by rw [hp], hi, ⟨by rw [Int.toNat_of_nonneg (by omega)], by omega, by omega⟩, ⟨by rw [Int.toNat_of_nonneg (by omega)], by omega⟩, ⟨by rw [Int.toNat_of_nonneg (by omega)], by omega⟩, hs, hs2⟩
theorem swB (e : Int) (h : -1085 ≤ e ∧ e ≤ 960) : ∃ i s : Nat, -((e + 11) * 78913 / 262144) = (i : Int) - 348 ∧ i < 696 ∧ (4 ≤ s ∧ s ≤ 58) ∧ -(e + ((i : Int) - 348) * 108853 / 32768 + 3) = s := by
  refine ⟨(348 - ((e + 11) * 78913 / 262144)).toNat, (-(e + (-((e + 11) * 78913 / 262144)) * 108853 / 32768 + 3)).toNat, by omega, by omega, by omega, ?_⟩
  have e1 : (((348 - ((e + 11) * 78913 / 262144)).toNat : Int) - 348) = -((e + 11) * 78913 / 262144) := by omega
  rw [e1]
  omega
theorem swA (e : Int) (h : -1085 ≤ e ∧ e ≤ 960) : ∃ i s : Nat, -(((e + 11) * 631305 - 261663) / 2097152) = (i : Int) - 348 ∧ i < 696 ∧ (4 ≤ s ∧ s ≤ 58) ∧ -(e + ((i : Int) - 348) * 108853 / 32768 + 3) = s := by
  refine ⟨(348 - (((e + 11) * 631305 - 261663) / 2097152)).toNat, (-(e + (-(((e + 11) * 631305 - 261663) / 2097152)) * 108853 / 32768 + 3)).toNat, by omega, by omega, by omega, ?_⟩
  have e1 : (((348 - (((e + 11) * 631305 - 261663) / 2097152)).toNat : Int) - 348) = -(((e + 11) * 631305 - 261663) / 2097152) := by omega
  rw [e1]
  omega
def SFR (w : World) (e : Ending) (w' : World) : Prop := ∃ (d : Nat) (q : Int), (1 ≤ d ∧ d < 18446744073709551616) ∧ (-400 ≤ q ∧ q ≤ 400) ∧ e = .returned (.tuple #[.int .u64 d, .int .i64 q]) ∧ Below w.heap.size w w'
set_option maxRecDepth 100000 in
set_option maxHeartbeats 1000000 in
theorem short_any (m : Nat) (e : Int) (hm : 9223372036854775808 ≤ m ∧ m < 18446744073709551616) (he : -1137 ≤ e ∧ e ≤ 960) (w0 : World) (hT : Tabs w0) : Calls Tryz.prog 138 #[.int .u64 m, .int .i64 e] w0 (SFR w0) := by
  have HT := Lib.hid hT
  clear hT
  go_enter Tryz.func138, Tryz.ntmps138
  go_upto_region 12 with fail
  rename World => wd
  go_cut [28] (fun y wx => (∃ b : Bool, y = .bool b ∧ (b = true → m = 9223372036854775808 ∧ -1085 ≤ e)) ∧ wd = wx)
  case first =>
    by_cases h1 : m = 9223372036854775808
    all_goals
      go_wp2_with fail
      go_meet
      case rel => exact ⟨⟨_, rfl, fun h => by first | exact ⟨h1, Int.le_of_lt (of_decide_eq_true h)⟩ | cases h⟩, by first | rfl | trivial⟩
  case rest =>
  obtain ⟨⟨b, rfl, hb⟩, rfl⟩ := hcut
  go_upto_if 28 with fail
  go_cut [5, 8, 9, 10] (fun p mn mx od wx => SwR e p mn mx od ∧ wd = wx)
  case first =>
    cases b
    · by_cases h85 : -1085 ≤ e
      · obtain ⟨i, s, hi1, hi2, hi3, hi4⟩ := swB e ⟨h85, he.2⟩
        have hw1 : IntKind.u64.wrap ((m : Int) - 1024) = (m : Int) - 1024 := IntWalk.u64_in _ (by omega)
        have hw2 : IntKind.i64.wrap ((m : Int) / 2048) = (m : Int) / 2048 := IntWalk.i64_in _ (by omega)
        have hw3 : IntKind.i64.wrap ((m : Int) / 2048 % 2) = (m : Int) / 2048 % 2 := IntWalk.i64_in _ (by omega)
        have ha : bits BinOp.and IntKind.i64 ((m : Int) / 2048) 1 = (m : Int) / 2048 % 2 := by
          have := and1i (m / 2048) (by omega)
          push_cast at this
          exact this
        have hr := u64r ((m : Int) + 1024)
        go_wp2_with fail
        refine (l10_any _ (by omega) _).mono ?_
        rintro e1 w1 ⟨rfl, rfl⟩
        go_wp2_with fail
        go_meet
        case rel => exact ⟨SwR.mk rfl hi2 (by omega) (by omega) (by omega) hi3 hi4, by first | rfl | trivial⟩
      · obtain ⟨z, hz⟩ : ∃ z : Nat, 11 + (-1085 - e) = (z : Int) := ⟨(11 + (-1085 - e)).toNat, by omega⟩
        obtain ⟨y, hy⟩ : ∃ y : Nat, (z : Int) - 1 = (y : Int) := ⟨((z : Int) - 1).toNat, by omega⟩
        have hze : e + (z : Int) = -1074 := by omega
        have hK : (2 : Int) ^ y ≤ 4611686018427387904 := by
          have : (2 : Int) ^ y ≤ 2 ^ 62 := by exact_mod_cast Nat.pow_le_pow_right (by omega) (by omega)
          exact this
        have hK0 : (0 : Int) < 2 ^ y := Int.pow_pos (by omega)
        have hw0 : IntKind.u64.wrap ((2 : Int) ^ y) = 2 ^ y := IntWalk.u64_in _ (by omega)
        have hw1 : IntKind.u64.wrap ((m : Int) - 2 ^ y) = (m : Int) - 2 ^ y := IntWalk.u64_in _ (by omega)
        have hq : 0 ≤ (m : Int) / 2 ^ z ∧ (m : Int) / 2 ^ z ≤ 9007199254740992 := by
          have h1 : (2 : Int) ^ 11 ≤ 2 ^ z := by exact_mod_cast Nat.pow_le_pow_right (by omega) (by omega)
          have e11 : (2 : Int) ^ 11 = 2048 := by decide
          have hz0 : (0 : Int) < 2 ^ z := Int.pow_pos (by omega)
          refine ⟨Int.ediv_nonneg (by omega) (by omega), ?_⟩
          have h2 : (m : Int) / 2 ^ z * 2 ^ z ≤ m := Int.ediv_mul_le _ (by omega)
          have h3 : (m : Int) / 2 ^ z * 2 ^ 11 ≤ (m : Int) / 2 ^ z * 2 ^ z := Int.mul_le_mul_of_nonneg_left h1 (Int.ediv_nonneg (by omega) (by omega))
          rw [e11] at h3
          omega
        have hw2 : IntKind.i64.wrap ((m : Int) / 2 ^ z) = (m : Int) / 2 ^ z := IntWalk.i64_in _ (by omega)
        have ha : bits BinOp.and IntKind.i64 ((m : Int) / 2 ^ z) 1 = (m : Int) / 2 ^ z % 2 := by
          have := and1i (m / 2 ^ z) (by have := hq.2; have e9 : ((m / 2 ^ z : Nat) : Int) = (m : Int) / 2 ^ z := by push_cast; rfl
                                        omega)
          push_cast at this
          exact this
        have hr := u64r ((m : Int) + 2 ^ y)
        have HQ := Lib.hid (And.intro hK (And.intro hK0 hq))
        clear hK hK0 hq
        go_wp2_with fail
        refine (l10_any _ (by omega) _).mono ?_
        rintro e1 w1 ⟨rfl, rfl⟩
        go_wp2_with fail
        go_meet
        case rel =>
          obtain ⟨h1, h2, h3, h4⟩ := HQ.out
          exact ⟨SwR.mk (i := 672) (s := (-(e + 1079)).toNat) (by decide) (by decide) (by omega) (by omega) (by omega) (by omega) (by omega), by first | rfl | trivial⟩
    · obtain ⟨h1, h85⟩ := hb rfl
      obtain ⟨i, s, hi1, hi2, hi3, hi4⟩ := swA e ⟨h85, he.2⟩
      subst h1
      go_wp2_with fail
      refine (skew_any _ (by omega) _).mono ?_
      rintro e1 w1 ⟨rfl, rfl⟩
      go_wp2_with fail
      go_meet
      case rel =>
        have h1 : bits BinOp.and IntKind.i64 4503599627370496 1 = 0 := by decide +kernel
        rw [h1]
        exact ⟨SwR.mk rfl hi2 (by omega) (by omega) (by omega) hi3 hi4, by first | rfl | trivial⟩
  case rest =>
  obtain ⟨hsw, rfl⟩ := hcut
  obtain ⟨i, a, b2, o, s, rfl, hi, ⟨rfl, ha1, ha2⟩, ⟨rfl, hb2⟩, ⟨rfl, ho⟩, hs, hlp⟩ := hsw
  clear hb
  have hst := St.nil wd.heap.size ⟨[], []⟩ wd (Nat.le_refl _)
  go_wp2_with ((first | ((with_reducible refine at_load ?_); first | refine X1 hst ?_ | refine XW hst ?_) | ((with_reducible refine at_store ?_); (first | refine Y1 hst ?_ | refine YW hst ?_); clear hst; intro w hst) | ((first | ((with_reducible refine at_alloc ?_); refine ZP hst ?_) | ((with_reducible refine at_box ?_); refine ZP hst ?_) | ((with_reducible refine at_bslice ?_); refine ZS hst ?_)); clear hst; (first | ((fail_if_success have := b0); intro b0 w hb0 hst) | ((fail_if_success have := b1); intro b1 w hb1 hst) | ((fail_if_success have := b2); intro b2 w hb2 hst) | (intro b3 w hb3 hst)))))
  refine (log2_any _ (by omega) _).mono ?_
  rintro e1 w1 ⟨rfl, rfl⟩
  generalize hlp2 : ((i : Int) - 348) * 108853 / 32768 = lp at *
  have hlp3 : -2000 ≤ lp ∧ lp ≤ 2000 := by omega
  go_wp2_with fail
  refine (prescale_any b0 i e lp 0 0 0 hi (by omega) (by omega) wd _ hst HT.out).mono ?_
  rintro e1 w2 ⟨x, y, ⟨hx1, hx2⟩, hy, rfl, hS⟩
  rw [hlp] at hS
  have hH1 : 2305843009213693952 ≤ a * x / 18446744073709551616 := by
    rw [Nat.le_div_iff_mul_le (by decide)]
    exact Nat.le_trans (by decide) (Nat.mul_le_mul ha1 hx1)
  have hH2 : 4611686018427387904 ≤ m * x / 18446744073709551616 := by
    rw [Nat.le_div_iff_mul_le (by decide)]
    exact Nat.le_trans (by decide) (Nat.mul_le_mul hm.1 hx1)
  have hU : ∀ H u : Nat, H < 18446744073709551616 → 2305843009213693952 ≤ H → (1 ≤ H → (H - 1) / 2 ^ s ≤ u ∧ u ≤ H / 2 ^ s + 1) → 7 ≤ u ∧ u ≤ 1152921504606846977 := fun H u h0 h1 h2 => by
    obtain ⟨h3, h4⟩ := h2 (by omega)
    have h5 : (H - 1) / 2 ^ 58 ≤ (H - 1) / 2 ^ s := Nat.div_le_div_left (Nat.pow_le_pow_right (by decide) hs.2) (Nat.pow_pos (by decide))
    have h6 : H / 2 ^ s ≤ H / 2 ^ 4 := Nat.div_le_div_left (Nat.pow_le_pow_right (by decide) hs.1) (Nat.pow_pos (by decide))
    have e58 : (2 : Nat) ^ 58 = 288230376151711744 := by decide
    have e4 : (2 : Nat) ^ 4 = 16 := by decide
    rw [e58] at h5
    rw [e4] at h6
    omega
  have HC := Lib.hid (And.intro hx1 (And.intro hx2 (And.intro hy (And.intro hH1 (And.intro hH2 hU)))))
  clear hst hlp hlp2 hlp3 hx1 hx2 hy hH1 hH2 hU HT
  have hlt : ∀ q : Nat, q < 18446744073709551616 → q * x / 18446744073709551616 < 18446744073709551616 := fun q hq => by
    apply Nat.div_lt_of_lt_mul
    exact Nat.mul_lt_mul'' hq HC.out.2.1
  have HLT := Lib.hid hlt
  clear hlt
  go_wp2_with fail
  refine (uscale_any b0 a x y s (by omega) ha2 HC.out.2.1 HC.out.2.2.1 wd w2 hS).mono ?_
  rintro e1 w3 ⟨u, hu, hub, rfl, hS3⟩
  obtain ⟨hu1, hu2⟩ := HC.out.2.2.2.2.2 _ u (HLT.out a ha2) HC.out.2.2.2.1 hub
  have HS3 := Lib.hid hS3
  clear hub hS hS3 hu
  have hw1 : IntKind.u64.wrap (o : Int) = o := IntWalk.u64_in _ (by omega)
  have hw2 : IntKind.u64.wrap ((u : Int) + o) = (u : Int) + o := IntWalk.u64_in _ (by omega)
  have hw3 : IntKind.u64.wrap ((u : Int) + o + 3) = (u : Int) + o + 3 := IntWalk.u64_in _ (by omega)
  go_wp2_with fail
  refine (nudge_any _ _ _).mono ?_
  rintro e1 w4 ⟨rfl, rfl⟩
  rw [hw1, hw2]
  go_wp2_with fail
  refine (ceil_any _ _).mono ?_
  rintro e1 w4 ⟨rfl, rfl⟩
  rw [hw3]
  obtain ⟨D, hD, hD1, hD2⟩ : ∃ D : Nat, ((u : Int) + o + 3) / 4 = (D : Int) ∧ 1 ≤ D ∧ D < 18446744073709551616 := ⟨(u + o + 3) / 4, by push_cast; rfl, by omega, by omega⟩
  rw [hD]
  clear hw1 hw2 hw3 hD hu1 hu2
  go_wp2_with fail
  refine (uscale_any b0 b2 x y s (by omega) hb2 HC.out.2.1 HC.out.2.2.1 wd w3 HS3.out).mono ?_
  rintro e1 w4 ⟨u2, -, -, rfl, hS4⟩
  have HS4 := Lib.hid hS4
  clear hS4
  go_wp2_with fail
  refine (nudge_any _ _ _).mono ?_
  rintro e1 w5 ⟨rfl, rfl⟩
  go_wp2_with fail
  refine (floor_any _ _).mono ?_
  rintro e1 w5 ⟨rfl, rfl⟩
  generalize hX : IntKind.u64.wrap ((u2 : Int) + IntKind.u64.wrap (-(o : Int))) = X
  obtain ⟨dm, hdm, hdm2⟩ : ∃ dm : Nat, IntKind.u64.wrap X / 4 = (dm : Int) ∧ dm < 18446744073709551616 := by
    have := u64r X
    exact ⟨(IntKind.u64.wrap X / 4).toNat, by omega, by omega⟩
  rw [hdm]
  clear hdm hX
  have hw1 : IntKind.u64.wrap ((dm : Int) / 10 * 10) = (dm : Int) / 10 * 10 := IntWalk.u64_in _ (by omega)
  by_cases h1 : (D : Int) ≤ (dm : Int) / 10 * 10
  · go_wp2_with fail
    exact ret_tmp2 rfl rfl rfl rfl ⟨dm / 10, -((i : Int) - 348 - 1), by omega, by omega, by push_cast; rfl, (St.kp HS4.out).below⟩
  · by_cases h2 : (D : Int) < dm
    · go_wp2_with fail
      refine (uscale_any b0 m x y s (by omega) hm.2 HC.out.2.1 HC.out.2.2.1 wd w4 HS4.out).mono ?_
      rintro e1 w5 ⟨u3, hu, hub, rfl, hS5⟩
      obtain ⟨hu1, hu2⟩ := HC.out.2.2.2.2.2 _ u3 (HLT.out m hm.2) (by have := HC.out.2.2.2.2.1; omega) hub
      have HB := Lib.hid (St.kp hS5).below
      clear hub hS5
      go_wp2_with fail
      refine (urnd_any _ _).mono ?_
      rintro e1 w6 ⟨r, rfl, rfl, hr⟩
      obtain ⟨hr1, hr2⟩ := hr (by omega) (by omega)
      obtain ⟨rn, rfl⟩ : ∃ rn : Nat, r = rn := ⟨r.toNat, by omega⟩
      go_wp2_with fail
      exact ret_tmp2 rfl rfl rfl rfl ⟨rn, -((i : Int) - 348), by omega, by omega, rfl, HB.out⟩
    · go_wp2_with fail
      exact ret_tmp2 rfl rfl rfl rfl ⟨D, -((i : Int) - 348), by omega, by omega, rfl, (St.kp HS4.out).below⟩
end Go.Proofs.YtpajcfkldnbpfaaGreatDoor
namespace Go.Proofs.YtpajcfkldnbpfaaGreatDoor
open Go.RowKit
def bV (t : List UInt8) : List Value := t.map fun c => .int .u8 (c.toNat : Int)
theorem bV_len (t : List UInt8) : (bV t).length = t.length := by simp [bV]
theorem bV_app (t u : List UInt8) : bV t ++ bV u = bV (t ++ u) := by simp [bV]
theorem bV_get {t : List UInt8} {i : Nat} (h : i < t.length) : (bV t)[i]? = some (.int .u8 ((t[i]).toNat : Int)) := by simp [bV, h]
theorem bV_one (t : List UInt8) : ((bV t).all Value.oneCell') = true := by
  rw [List.all_eq_true]
  intro v hv
  obtain ⟨c, _, rfl⟩ := List.mem_map.1 hv
  rfl
theorem byte_of {x : Int} (h : 0 ≤ x ∧ x ≤ 255) : ∃ c : UInt8, x = (c.toNat : Int) := ⟨UInt8.ofNat x.toNat, by simp; omega⟩
theorem u8r (x : Int) : 0 ≤ IntKind.u8.wrap x ∧ IntKind.u8.wrap x ≤ 255 := by
  rw [IntKind.wrap_u8]
  omega
def Buf (w0 : World) (sb : Nat) (ds t : List UInt8) (d : Value) (w : World) : Prop := ∃ (oid : Option Nat) (cap : Nat) (sp : List Value), d = .slice (slP oid) t.length cap ∧ Gr 1 oid t.length cap (bV t) sp ∧ St w0.heap.size ⟨[], []⟩ w0 w [(oid, bV t ++ sp, 5), (some sb, bV ds, 265)]
def BufN (w0 : World) (sb : Nat) (ds : List UInt8) (n : Nat) (d : Value) (w : World) : Prop := ∃ t : List UInt8, t.length ≤ n ∧ Buf w0 sb ds t d w
theorem Buf.app {w0 w : World} {sb : Nat} {ds t u : List UInt8} {oid : Option Nat} {cap m : Nat} {sp news : List Value} (hst : St w0.heap.size ⟨[], []⟩ w0 w [(oid, (bV t ++ news) ++ sp, 5), (some sb, bV ds, 265)]) (hgr : Gr 1 oid (t.length + m) cap (bV t ++ news) sp) (hn : news = bV u) (hm : m = u.length) : Buf w0 sb ds (t ++ u) (.slice (slP oid) (t.length + m) cap) w := by
  subst hn
  subst hm
  rw [bV_app] at hst hgr
  rw [← List.length_append] at hgr ⊢
  exact ⟨oid, cap, sp, rfl, hgr, hst⟩
theorem Buf.cell {w0 w : World} {sb : Nat} {ds t : List UInt8} {d : Value} (h : Buf w0 sb ds t d w) {i : Nat} (hi : i < ds.length) : w.cell? ⟨sb, i, none⟩ = some (.int .u8 ((ds[i]).toNat : Int)) := by
  obtain ⟨oid, cap, sp, -, -, hst⟩ := h
  exact (hst.blk (b := sb) (by (repeat' (first | exact List.Mem.head _ | apply List.Mem.tail)); done)).cell (bV_get hi)
theorem Buf.below {w0 w : World} {sb : Nat} {ds t : List UInt8} {d : Value} (h : Buf w0 sb ds t d w) : Below w0.heap.size w0 w := by
  obtain ⟨oid, cap, sp, -, -, hst⟩ := h
  exact hst.kp.below
set_option maxRecDepth 100000 in
set_option maxHeartbeats 1000000 in
theorem efg_zero (w0 w : World) (sb : Nat) (ds : List UInt8) (ng : Bool) (d : Value) (hB : Buf w0 sb ds [] d w) : Calls Tryz.prog 129 #[d, .bool ng, .slice none 0 0, .int .i64 0, .int .i64 0, .int .i64 (-1), .int .u8 103, .bool true] w fun e w' => ∃ d', e = .returned d' ∧ BufN w0 sb ds 40 d' w' := by
  obtain ⟨oid, cap, sp, rfl, hgr, hst⟩ := hB
  have h0 : ([] : List UInt8).length = 0 := rfl
  rw [h0] at *
  cases ng
  · go_enter Tryz.func129, Tryz.ntmps129
    go_wp2_with ((first | ((with_reducible refine at_bslice ?_); (refine ZS hst ?_; clear hst; (intro b0 w hb0 hst))) | ((with_reducible refine at_append ?_); refine wl_appH hst rfl rfl rfl rfl el213 hgr (by decide) (by decide) rfl rfl (by omega) (by simp only [maxLen]; omega) ?_; clear hst hgr; intro oid' cap' sp' w' hst hgr hno)))
    refine ret_tmp rfl rfl rfl ⟨_, rfl, [48], by decide, ?_⟩
    exact Buf.app (t := []) (u := [48]) (m := 1) hst hgr rfl rfl
  · go_enter Tryz.func129, Tryz.ntmps129
    go_wp2_with ((first | ((with_reducible refine at_bslice ?_); (refine ZS hst ?_; clear hst; (intro b0 w hb0 hst))) | ((with_reducible refine at_append ?_); refine wl_appH hst rfl rfl rfl rfl el213 hgr (by decide) (by decide) rfl rfl (by omega) (by simp only [maxLen]; omega) ?_; clear hst hgr; intro oid' cap' sp' w' hst hgr hno)))
    refine ret_tmp rfl rfl rfl ⟨_, rfl, [45, 48], by decide, ?_⟩
    have hst2 := hst
    have hgr2 := hgr
    rw [List.append_assoc (bV [])] at hst2 hgr2
    exact Buf.app (t := []) (u := [45, 48]) (m := 2) hst2 hgr2 rfl rfl
theorem St.putRow {B b t i k : Nat} {Ts : Ch} {w0 w : World} {L : Rws} {ds : List UInt8} {dk : Array UInt8} (h : St B Ts w0 w L) (hi : L[i]? = some (some b, bV ds, t)) (hk : dk.size = k) (hkd : k ≤ ds.length) : St B Ts w0 (Sort.putRow (fun (b : UInt8) => Value.int .u8 (b.toNat : Int)) w b 0 dk) (L.set i (some b, bV (dk.toList ++ ds.drop k), t)) := by
  have hb := h.heap (List.mem_of_getElem? hi)
  have e : Sort.putRow (fun (b : UInt8) => Value.int .u8 (b.toNat : Int)) w b 0 dk = w.setRow b (bV (dk.toList ++ ds.drop k)).toArray := by
    unfold Sort.putRow
    rw [Sort.mapBlock_congr w b _ (fun _ => (bV (dk.toList ++ ds.drop k)).toArray) (fun c e fr hc => by
      rw [hb] at hc
      cases hc
      apply Array.ext'
      apply List.ext_getElem?
      intro j
      simp only [Sort.putCells, Array.toList_mapIdx, List.getElem?_mapIdx, bV, List.getElem?_map, Nat.zero_le, Nat.zero_add, true_and, Nat.sub_zero, hk]
      by_cases hj : j < k
      · rw [List.getElem?_append_left (by simpa [hk] using hj)]
        have h1 : j < ds.length := by omega
        have h2 : j < dk.size := by omega
        simp [hj, h1, h2]
      · rw [List.getElem?_append_right (by simpa [hk] using hj), List.getElem?_drop]
        have e3 : k + (j - dk.toList.length) = j := by simp [hk]; omega
        rw [e3]
        cases ds[j]? <;> simp [hj])]
    rfl
  rw [e]
  exact h.set hi _
theorem holds_of {w : World} {b t k : Nat} {ds : List UInt8} (hb : w.heap[b]? = some (.cells (bV ds).toArray t (0, 0))) (hk : k ≤ ds.length) : Sort.Holds (fun (b : UInt8) => Value.int .u8 (b.toNat : Int)) w b 0 (ds.take k).toArray := by
  intro j hj
  simp only [List.size_toArray, List.length_take] at hj
  have h1 : j < ds.length := by omega
  have h2 : j < k := by omega
  refine ⟨?_, ?_⟩
  · simp [World.cell?, hb, bV, h1, h2]
  · simp [World.frozen?, hb]
def SdR (w0 : World) (sb : Nat) (t : List UInt8) (dv : Value) (e : Ending) (w' : World) : Prop := ∃ (ds : List UInt8) (dp : Int) (nz : Nat), ds.length = 32 ∧ nz ≤ 20 ∧ (-420 ≤ dp ∧ dp ≤ 420) ∧ e = .returned (.tuple #[.int .i64 dp, .int .i64 nz]) ∧ Buf w0 sb ds t dv w'
theorem nDigits_le {d : Nat} (h1 : 1 ≤ d) (h2 : d < 18446744073709551616) : Lib.nDigits d ≤ 20 := by
  have := Lib.numDigits_eq d h1 h2
  split at this <;> omega
set_option maxRecDepth 100000 in
set_option maxHeartbeats 1000000 in
theorem setDig_any (w0 w : World) (sb : Nat) (ds t : List UInt8) (dv : Value) (hB : Buf w0 sb ds t dv w) (hds : ds.length = 32) (d : Nat) (q : Int) (hd1 : 1 ≤ d) (hd2 : d < 18446744073709551616) (hq : -400 ≤ q ∧ q ≤ 400) : Calls Tryz.prog 132 #[.slice (some ⟨sb, 0, none⟩) 32 32, .int .u64 d, .int .i64 q, .int .i64 (Lib.nDigits d)] w (SdR w0 sb t dv) := by
  obtain ⟨oid, cap, sp, rfl, hgr, hst⟩ := hB
  have hn := nDigits_le hd1 hd2
  have hH := holds_of (k := Lib.nDigits d) (hst.heap (b := sb) (by (repeat' (first | exact List.Mem.head _ | apply List.Mem.tail)); done)) (by omega)
  have hsz : (ds.take (Lib.nDigits d)).toArray.size = Lib.nDigits d := by simp; omega
  have hfmt := Tryz.internal_strconv_formatBase10 sb 0 32 d (ds.take (Lib.nDigits d)).toArray w hH (by rw [hsz]; exact Lib.lt_pow_nDigits d) hd2 (by rw [hsz]; omega)
  rw [hsz] at hfmt
  have HF := Lib.hid (And.intro hfmt (And.intro hst hgr))
  clear hfmt hH hsz hst hgr
  generalize Lib.nDigits d = nd at *
  go_enter Tryz.func132, Tryz.ntmps132
  go_wp2_with fail
  refine HF.out.1.mono ?_
  rintro e w' ⟨rfl, k, v', dk, rfl, hF⟩
  have hst := St.putRow (i := 1) HF.out.2.1 rfl hF.size (by omega)
  have hds' : (dk.toList ++ ds.drop nd).length = 32 := by
    have := hF.size
    simp only [List.length_append, Array.length_toList, List.length_drop]
    omega
  generalize dk.toList ++ ds.drop nd = ds' at *
  have hst2 : St w0.heap.size ⟨[], []⟩ w0 ((Sort.putRow (fun (b : UInt8) => Value.int .u8 (b.toNat : Int)) w sb 0 dk).drewN k) [(oid, bV t ++ sp, 5), (some sb, bV ds', 265)] := by
    clear hF
    induction k with
    | zero => exact hst
    | succ k ih => exact ih.drew
  generalize (Sort.putRow (fun (b : UInt8) => Value.int .u8 (b.toNat : Int)) w sb 0 dk).drewN k = w2 at *
  have HB := Lib.hid (show Buf w0 sb ds' t (.slice (slP oid) t.length cap) w2 from ⟨oid, cap, sp, rfl, HF.out.2.2, hst2⟩)
  clear hst hst2 hF HF
  go_wp2_with fail
  go_loopw [3] (fun v wx => ∃ m : Nat, v = .int .i64 m ∧ m ≤ nd ∧ w2 = wx) (fun v _ => (intOf v).toNat)
  case atStart => exact ⟨nd, rfl, Nat.le_refl _, rfl⟩
  case round =>
    obtain ⟨m, rfl, hm, rfl⟩ := hrel
    by_cases h0 : m = 0
    · subst h0
      go_wp2_with fail
      exact ret_tmp2 rfl rfl rfl rfl ⟨ds', _, 0, hds', Nat.zero_le _, by omega, rfl, HB.out⟩
    · have hc := HB.out.cell (i := m - 1) (by omega)
      have h1 : (0 : Int) < m := by omega
      have h1b : 0 < m := by omega
      have h2 : IntKind.i64.wrap ((m : Int) - 1) = ((m - 1 : Nat) : Int) := (IntWalk.i64_in _ (by omega)).trans (by omega)
      have h3 : ((m - 1 : Nat) : Int) < 32 := by omega
      have h4 : (0 : Int) ≤ ((m - 1 : Nat) : Int) := by omega
      generalize (ds'[m - 1]).toNat = c at *
      by_cases h48 : c = 48
      · go_wp2_with fail
        go_round
        case rel => exact ⟨m - 1, rfl, by omega, by first | rfl | trivial⟩
        case measure => simp [intOf]; omega
      · go_wp2_with fail
        exact ret_tmp2 rfl rfl rfl rfl ⟨ds', _, m, hds', by omega, by omega, rfl, HB.out⟩
end Go.Proofs.YtpajcfkldnbpfaaGreatDoor
namespace Go.Proofs.YtpajcfkldnbpfaaGreatDoor
open Go.RowKit
def EfR (w0 : World) (sb : Nat) (ds : List UInt8) (e : Ending) (w' : World) : Prop := ∃ d', e = .returned d' ∧ BufN w0 sb ds 500 d' w'
theorem bV_ints : ∀ (l : List Int), (∀ z ∈ l, 0 ≤ z ∧ z ≤ 255) → ∃ u : List UInt8, l.map (fun z => Value.int .u8 z) = bV u ∧ u.length = l.length
  | [], _ => ⟨[], rfl, rfl⟩
  | z :: l, h => by
    obtain ⟨u, h1, h2⟩ := bV_ints l (fun y hy => h y (List.mem_cons_of_mem _ hy))
    obtain ⟨c, hc⟩ := byte_of (h z (List.mem_cons_self ..))
    exact ⟨c :: u, by rw [List.map_cons, h1, hc]; rfl, by simp [h2]⟩
theorem BufN.app {w0 w : World} {sb : Nat} {ds t : List UInt8} {l : List Int} {oid : Option Nat} {cap m N : Nat} {sp news : List Value} (hst : St w0.heap.size ⟨[], []⟩ w0 w [(oid, (bV t ++ news) ++ sp, 5), (some sb, bV ds, 265)]) (hgr : Gr 1 oid (t.length + m) cap (bV t ++ news) sp) (hn : news = l.map (fun z => Value.int .u8 z)) (hl : ∀ z ∈ l, 0 ≤ z ∧ z ≤ 255) (hm : m = l.length) (hN : t.length + m ≤ N) : BufN w0 sb ds N (.slice (slP oid) (t.length + m) cap) w := by
  obtain ⟨u, h1, h2⟩ := bV_ints l hl
  refine ⟨t ++ u, by rw [List.length_append]; omega, Buf.app (u := u) hst hgr (by rw [hn, h1]) (by omega)⟩
theorem bV_sub {ds : List UInt8} {i k j : Nat} {v : Value} (h : (bV ((ds.drop i).take k))[j]? = some v) : (bV ds)[i + j]? = some v := by
  simp only [bV, List.getElem?_map, List.getElem?_take, List.getElem?_drop] at h ⊢
  split at h
  · exact h
  · cases h
set_option maxRecDepth 100000 in
set_option maxHeartbeats 4000000 in
theorem efg_e (w0 w : World) (sb : Nat) (ds : List UInt8) (ng : Bool) (d : Value) (hB : BufN w0 sb ds 0 d w) (hds : ds.length = 32) (nd : Nat) (dp : Int) (hnd : nd ≤ 20) (hdp : -450 ≤ dp ∧ dp ≤ 450) (hE : dp < -3 ∨ 7 ≤ dp) : Calls Tryz.prog 129 #[d, .bool ng, .slice (some ⟨sb, 0, none⟩) 32 32, .int .i64 dp, .int .i64 nd, .int .i64 nd, .int .u8 103, .bool true] w (EfR w0 sb ds) := by
  have HB := Lib.hid hB
  clear hB
  have hw0 : IntKind.i64.wrap (dp - 1) = dp - 1 := IntWalk.i64_in _ (by omega)
  go_enter Tryz.func129, Tryz.ntmps129
  go_upto_region 3 with fail
  go_cut [45] from 38 to 45 (fun y wx => (∃ b : Bool, y = .bool b) ∧ w = wx)
  case first =>
    as_aux_lemma =>
    go_wp2_with fail
    all_goals
      go_meet
      case rel => exact ⟨⟨_, rfl⟩, by first | rfl | trivial⟩
  case rest =>
  obtain ⟨⟨bb, rfl⟩, rfl⟩ := hcut
  go_upto_if 45 with fail
  go_cut [17] from 46 to 46 (fun y wx => True ∧ w = wx)
  case first =>
    as_aux_lemma =>
    cases bb
    all_goals
      go_wp2_with fail
      go_meet
      case rel => exact ⟨trivial, by first | rfl | trivial⟩
  case rest =>
  obtain ⟨-, rfl⟩ := hcut
  go_upto_region 8 with fail
  go_cut [56] from 50 to 56 (fun y wx => y = .bool true ∧ w = wx)
  case first =>
    as_aux_lemma =>
    rcases hE with h | h
    · have h1 : dp - 1 < -4 := by omega
      go_wp2_with fail
      go_meet
      case rel => exact ⟨rfl, by first | rfl | trivial⟩
    · have h1 : ¬ dp - 1 < -4 := by omega
      have h2 : 6 ≤ dp - 1 := by omega
      go_wp2_with fail
      go_meet
      case rel => exact ⟨by simp, by first | rfl | trivial⟩
  case rest =>
  obtain ⟨rfl, rfl⟩ := hcut
  clear hE hw0
  go_upto_if 78 with fail
  go_cut [0] from 79 to 81 (fun y wx => BufN w0 sb ds 1 y wx)
  case first =>
    as_aux_lemma =>
    cases ng
    · obtain ⟨t, ht, hb⟩ := HB.out
      go_wp2_with fail
      go_meet
      case rel => exact ⟨t, by omega, hb⟩
    · (obtain ⟨t, ht, oid, cap, sp, rfl, hgr, hst⟩ := HB.out; have HT := Lib.hid ht; have ht5 : t.length ≤ 500 := (by omega); clear ht; go_wp2_with ((first | ((with_reducible refine at_bslice ?_); refine ZS hst ?_; clear hst; intro bx wz hbx hst) | ((with_reducible refine at_append ?_); refine wl_appH hst rfl rfl rfl rfl el213 hgr (by decide) (by decide) rfl rfl (by omega) (by simp only [maxLen]; omega) ?_; clear hst hgr; intro oid' cap' sp' w' hst hgr hno))); go_meet; (case rel => exact ⟨t ++ [45], by (rw [List.length_append]; have := HT.out; simp only [List.length_cons, List.length_nil]; omega), Buf.app (u := [45]) hst hgr rfl rfl⟩))
  case rest =>
  clear HB
  have HB := Lib.hid hcut
  clear hcut
  go_upto_region 22 with fail
  go_upto_region 23 with fail
  go_upto_if 83 with fail
  go_cut [19] from 84 to 86 (fun y wx => (∃ c : UInt8, y = .int .u8 (c.toNat : Int)) ∧ wc = wx)
  case first =>
    as_aux_lemma =>
    by_cases h0 : nd = 0
    · subst h0
      go_wp2_with fail
      go_meet
      case rel => exact ⟨⟨48, rfl⟩, by first | rfl | trivial⟩
    · obtain ⟨t, ht, hb⟩ := HB.out
      have hc := hb.cell (i := 0) (by omega)
      go_wp2_with fail
      go_meet
      case rel => exact ⟨⟨_, rfl⟩, by first | rfl | trivial⟩
  case rest =>
  obtain ⟨⟨c, rfl⟩, rfl⟩ := hcut
  go_upto_region 25 with fail
  go_cut [0] from 87 to 90 (fun y wx => BufN w0 sb ds 2 y wx)
  case first =>
    as_aux_lemma =>
    (obtain ⟨t, ht, oid, cap, sp, rfl, hgr, hst⟩ := HB.out; have HT := Lib.hid ht; have ht5 : t.length ≤ 500 := (by omega); clear ht; go_wp2_with ((first | ((with_reducible refine at_bslice ?_); refine ZS hst ?_; clear hst; intro bx wz hbx hst) | ((with_reducible refine at_append ?_); refine wl_appH hst rfl rfl rfl rfl el213 hgr (by decide) (by decide) rfl rfl (by omega) (by simp only [maxLen]; omega) ?_; clear hst hgr; intro oid' cap' sp' w' hst hgr hno))); go_meet; (case rel => exact ⟨t ++ [c], by (rw [List.length_append]; have := HT.out; simp only [List.length_cons, List.length_nil]; omega), Buf.app (u := [c]) hst hgr rfl rfl⟩))
  case rest =>
  clear HB
  have HB := Lib.hid hcut
  clear hcut
  go_upto_if 92 with fail
  go_cut [0, 20, 21, 83] from 91 to 119 (fun y _ _ _ wx => BufN w0 sb ds 30 y wx)
  case first =>
    as_aux_lemma =>
    by_cases h1 : nd ≤ 1
    · obtain ⟨t, ht, hb⟩ := HB.out
      have h2 : ¬ (0 : Int) < (nd : Int) - 1 := by omega
      go_wp2_with fail
      go_meet
      case rel => exact ⟨t, by omega, hb⟩
    · have h2 : (0 : Int) < (nd : Int) - 1 := by omega
      have h3 : min (nd : Int) ((nd : Int) - 1 + 1) = nd := by omega
      have h4 : (1 : Int) < nd := by omega
      obtain ⟨t, ht, oid, cap, sp, rfl, hgr, hst⟩ := HB.out
      have HT := Lib.hid ht
      have ht5 : t.length ≤ 500 := by omega
      clear ht
      have h5 : (nd : Int) - 1 + 1 - nd = 0 := by omega
      have hlen : (bV ((ds.drop 1).take (nd - 1))).length = (nd - 1) * 1 := by rw [bV_len, List.length_take, List.length_drop, hds]; omega
      go_upto_region 31 with ((first | ((with_reducible refine at_bslice ?_); refine ZS hst ?_; clear hst; intro bx wz hbx hst) | ((with_reducible refine at_append ?_); refine wl_appH hst rfl rfl rfl rfl el213 hgr (by decide) (by decide) rfl rfl (by omega) (by simp only [maxLen]; omega) ?_; clear hst hgr; intro oid' cap' sp' w' hst hgr hno)))
      go_upto_region 32 with ((with_reducible refine at_append ?_); refine wl_app (i := 0) (oid := oid') (n := t.length + 1) (xs := bV t ++ [.int .u8 46]) (sp := sp') (news := bV ((ds.drop 1).take (nd - 1))) hst rfl rfl rfl rfl el213 rfl hgr (by decide) (by omega) hlen (fun j v hv => by rw [add_lit]; exact (hst.blk (b := sb) (by (repeat' (first | exact List.Mem.head _ | apply List.Mem.tail)); done)).cell (bV_sub hv)) (bV_one _) (by omega) (by simp only [maxLen]; omega) ?_; clear hst hgr; intro oid2 cap2 sp2 w2 hst hgr hno)
      simp only [List.set_cons_zero, slV_eq] at hst ⊢
      rw [Nat.mul_one, bV_len] at hlen
      have hfin : BufN w0 sb ds 30 (.slice (slP oid2) (t.length + 1 + (nd - 1)) cap2) w2 := by
        rw [List.append_assoc (bV t)] at hst hgr
        rw [Nat.add_assoc] at hgr ⊢
        refine ⟨t ++ (46 :: (ds.drop 1).take (nd - 1)), ?_, Buf.app (u := 46 :: (ds.drop 1).take (nd - 1)) (m := 1 + (nd - 1)) hst hgr rfl (by rw [List.length_cons, hlen]; omega)⟩
        rw [List.length_append, List.length_cons, hlen]
        have := HT.out
        omega
      have HFN := Lib.hid hfin
      clear hfin hst hgr hno HT HB hlen
      go_wp2_with fail
      go_loopw [0, 114] (fun d i wx => d = .slice (slP oid2) (t.length + 1 + (nd - 1)) cap2 ∧ i = .int .i64 0 ∧ wx = w2) (fun _ _ _ => 0)
      case atStart => exact ⟨rfl, rfl, rfl⟩
      case round =>
        obtain ⟨rfl, rfl, rfl⟩ := hrel
        go_wp2_with fail
        go_meet
        case rel => exact HFN.out
  case rest =>
  clear HB
  have HB := Lib.hid hcut
  clear hcut
  go_upto_region 37 with fail
  go_cut [0] from 120 to 123 (fun y wx => BufN w0 sb ds 31 y wx)
  case first =>
    as_aux_lemma =>
    (obtain ⟨t, ht, oid, cap, sp, rfl, hgr, hst⟩ := HB.out; have HT := Lib.hid ht; have ht5 : t.length ≤ 500 := (by omega); clear ht; go_wp2_with ((first | ((with_reducible refine at_bslice ?_); refine ZS hst ?_; clear hst; intro bx wz hbx hst) | ((with_reducible refine at_append ?_); refine wl_appH hst rfl rfl rfl rfl el213 hgr (by decide) (by decide) rfl rfl (by omega) (by simp only [maxLen]; omega) ?_; clear hst hgr; intro oid' cap' sp' w' hst hgr hno))); go_meet; (case rel => exact ⟨t ++ [101], by (rw [List.length_append]; have := HT.out; simp only [List.length_cons, List.length_nil]; omega), Buf.app (u := [101]) hst hgr rfl rfl⟩))
  case rest =>
  clear HB
  have HB := Lib.hid hcut
  clear hcut
  go_upto_if 127 with fail
  go_cut [22] from 128 to 128 (fun y wx => (∃ x : Int, y = .int .i64 x ∧ -500 ≤ x ∧ x ≤ 500) ∧ wc = wx)
  case first =>
    as_aux_lemma =>
    by_cases h0 : nd = 0
    · subst h0
      go_wp2_with fail
      go_meet
      case rel => exact ⟨⟨0, rfl, by omega, by omega⟩, by first | rfl | trivial⟩
    · go_wp2_with fail
      go_meet
      case rel => exact ⟨⟨_, rfl, by omega, by omega⟩, by first | rfl | trivial⟩
  case rest =>
  obtain ⟨⟨x, rfl, hx1, hx2⟩, rfl⟩ := hcut
  go_upto_if 129 with fail
  go_cut [19, 22] from 130 to 131 (fun z y wx => (∃ c : UInt8, z = .int .u8 (c.toNat : Int)) ∧ (∃ x : Int, y = .int .i64 x ∧ 0 ≤ x ∧ x ≤ 500) ∧ wc = wx)
  case first =>
    as_aux_lemma =>
    have hw : IntKind.i64.wrap (-x) = -x := IntWalk.i64_in _ (by omega)
    by_cases h0 : x < 0
    · go_wp2_with fail
      go_meet
      case rel => exact ⟨⟨45, rfl⟩, ⟨_, rfl, by omega, by omega⟩, by first | rfl | trivial⟩
    · go_wp2_with fail
      go_meet
      case rel => exact ⟨⟨43, rfl⟩, ⟨_, rfl, by omega, by omega⟩, by first | rfl | trivial⟩
  case rest =>
  obtain ⟨⟨c2, rfl⟩, ⟨x2, rfl, hy1, hy2⟩, rfl⟩ := hcut
  go_upto_region 45 with fail
  go_cut [0] from 132 to 135 (fun y wx => BufN w0 sb ds 32 y wx)
  case first =>
    as_aux_lemma =>
    (obtain ⟨t, ht, oid, cap, sp, rfl, hgr, hst⟩ := HB.out; have HT := Lib.hid ht; have ht5 : t.length ≤ 500 := (by omega); clear ht; go_wp2_with ((first | ((with_reducible refine at_bslice ?_); refine ZS hst ?_; clear hst; intro bx wz hbx hst) | ((with_reducible refine at_append ?_); refine wl_appH hst rfl rfl rfl rfl el213 hgr (by decide) (by decide) rfl rfl (by omega) (by simp only [maxLen]; omega) ?_; clear hst hgr; intro oid' cap' sp' w' hst hgr hno))); go_meet; (case rel => exact ⟨t ++ [c2], by (rw [List.length_append]; have := HT.out; simp only [List.length_cons, List.length_nil]; omega), Buf.app (u := [c2]) hst hgr rfl rfl⟩))
  case rest =>
  clear HB
  have HB := Lib.hid hcut
  clear hcut
  obtain ⟨t, ht, oid, cap, sp, rfl, hgr, hst⟩ := HB.out
  have HT := Lib.hid ht
  have ht5 : t.length ≤ 400 := by omega
  clear ht HB
  rcases (by omega : x2 < 10 ∨ (10 ≤ x2 ∧ x2 < 100) ∨ 100 ≤ x2) with h | ⟨h, h'⟩ | h
  · as_aux_lemma =>
    go_wp2_with ((first | ((with_reducible refine at_bslice ?_); refine ZS hst ?_; clear hst; intro bx wz hbx hst) | ((with_reducible refine at_append ?_); refine wl_appH hst rfl rfl rfl rfl el213 hgr (by decide) (by decide) rfl rfl (by omega) (by simp only [maxLen]; omega) ?_; clear hst hgr; intro oid' cap' sp' w' hst hgr hno)))
    exact ret_tmp rfl rfl rfl ⟨_, rfl, BufN.app (l := [48, x2 + 48]) hst hgr rfl (by intro z hz; simp at hz; omega) rfl (by have := HT.out; omega)⟩
  · as_aux_lemma =>
    go_wp2_with ((first | ((with_reducible refine at_bslice ?_); refine ZS hst ?_; clear hst; intro bx wz hbx hst) | ((with_reducible refine at_append ?_); refine wl_appH hst rfl rfl rfl rfl el213 hgr (by decide) (by decide) rfl rfl (by omega) (by simp only [maxLen]; omega) ?_; clear hst hgr; intro oid' cap' sp' w' hst hgr hno)))
    exact ret_tmp rfl rfl rfl ⟨_, rfl, BufN.app (l := [x2 / 10 + 48, x2 % 10 + 48]) hst hgr rfl (by intro z hz; simp at hz; omega) rfl (by have := HT.out; omega)⟩
  · as_aux_lemma =>
    go_wp2_with ((first | ((with_reducible refine at_bslice ?_); refine ZS hst ?_; clear hst; intro bx wz hbx hst) | ((with_reducible refine at_append ?_); refine wl_appH hst rfl rfl rfl rfl el213 hgr (by decide) (by decide) rfl rfl (by omega) (by simp only [maxLen]; omega) ?_; clear hst hgr; intro oid' cap' sp' w' hst hgr hno)))
    exact ret_tmp rfl rfl rfl ⟨_, rfl, BufN.app (l := [x2 / 100 + 48, x2 / 10 % 10 + 48, x2 % 10 + 48]) hst hgr rfl (by intro z hz; simp at hz; omega) rfl (by have := HT.out; omega)⟩
end Go.Proofs.YtpajcfkldnbpfaaGreatDoor
