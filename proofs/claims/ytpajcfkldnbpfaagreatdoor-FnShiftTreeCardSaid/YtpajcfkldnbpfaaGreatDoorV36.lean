/- readFloat, of numbers. -/
import Derived.Test.YtpajcfkldnbpfaaGreatDoorV35
set_option linter.unusedSimpArgs false
set_option linter.unusedVariables false
namespace Go.Proofs.YtpajcfkldnbpfaaGreatDoor
open Go.RowKit
theorem RFR.mk {s : ByteArray} {l : List UInt8} {w : World} {m p z : Int} {ng tr : Bool} (hm : 0 ≤ m ∧ m < 10000000000000000000) (hp : -60 ≤ p ∧ p ≤ 60) (ht : tr = true → 20 ≤ (sc l).nd) (hz : z = (s.size : Int)) : RFR s l w (.returned (.tuple #[.int .u64 m, .int .i64 p, .bool ng, .bool tr, .bool false, .int .i64 z, .bool true])) w :=
  ⟨m, p, ng, tr, hm, hp, ht, by rw [hz], rfl⟩
theorem lower_ne (c : Int) (h : c = 46 ∨ (48 ≤ c ∧ c ≤ 57)) : (bits BinOp.or IntKind.u8 c 32 == 120) = false := by
  have key : ∀ n : Fin 12, (bits BinOp.or IntKind.u8 (((n.val + 46 : Nat) : Int)) 32 == 120) = false := by decide +kernel
  have := key ⟨(c - 46).toNat, by omega⟩
  have e : (((c - 46).toNat + 46 : Nat) : Int) = c := by omega
  rw [e] at this
  exact this
theorem stp_dig {n : Nat} {p : Int} {d : Bool} {c : UInt8} (h : c ≠ 46) (h2 : ¬ (c.toNat = 48 ∧ n = 0)) : stp ⟨n, p, d⟩ c = ⟨n + 1, p, d⟩ := by
  unfold stp
  rw [if_neg h, if_neg (fun h3 => h2 ⟨by rw [h3.1]; rfl, h3.2⟩)]
theorem pow19 {n : Nat} (h : n ≤ 19) : (10 : Int) ^ n ≤ 10000000000000000000 := by
  have : (10 : Int) ^ n ≤ 10 ^ 19 := by exact_mod_cast Nat.pow_le_pow_right (by omega) h
  have e : (10 : Int) ^ 19 = 10000000000000000000 := by decide
  omega
set_option maxRecDepth 100000 in
set_option maxHeartbeats 4000000 in
theorem readF_any (s : ByteArray) (off : Nat) (l : List UInt8) (hN : NumS s off l) (w : World) : Calls Tryz.prog 149 #[.string s] w (RFR s l w) := by
  have hlen := hN.1.len
  have hfst := hN.1.first.1
  have hsz := hN.size
  have h0 : 0 < s.size := by omega
  have hsg := hN.lead h0
  have hne : ¬ s = ByteArray.empty := fun e => by rw [e] at h0; exact absurd h0 (by decide)
  have HN := Lib.hid hN
  clear hN
  go_enter Tryz.func149, Tryz.ntmps149
  go_wp2_with fail
  apply wp_scope_straight
  go_upto_block 0 with fail
  go_cut [7, 4] (fun i ng wx => i = .int .i64 off ∧ (∃ b : Bool, ng = .bool b) ∧ w = wx)
  case first => (rcases hsg with ⟨rfl, h43, h45⟩ | ⟨rfl, h45⟩; (focus (have h43b : ¬ (s[0].toNat = 43) := (by omega); have h45b : ¬ (s[0].toNat = 45) := (by omega); go_wp2_with fail; go_meet; case rel => exact ⟨rfl, ⟨_, rfl⟩, rfl⟩)); (have h45b : s[0].toNat = 45 := (by omega); go_wp2_with fail; go_meet; case rel => exact ⟨rfl, ⟨_, rfl⟩, rfl⟩))
  case rest =>
  clear hsg
  obtain ⟨rfl, ⟨ng, rfl⟩, rfl⟩ := hcut
  have hoff : off ≤ 1 := by rcases HN.out.2 with ⟨h, _⟩ | ⟨h, _⟩ <;> omega
  go_upto_region 12 with fail
  go_cut [54] (fun y wx => y = .bool false ∧ w = wx)
  case first =>
    by_cases h2 : (off : Int) + 2 < s.size
    · by_cases h48 : s[off].toNat = 48
      · have hlt1 : 1 < l.length := by omega
        obtain ⟨_, e1⟩ := HN.out.at hlt1
        have hlo := lower_ne (l[1].toNat : Int) (by have h3 := HN.out.1.byte hlt1; rcases h3 with h3 | h3; (left; rw [h3]; rfl); exact .inr h3)
        go_wp2_with fail
        refine (Tryz.internal_strconv_lower _ _).mono ?_
        rintro e w1 ⟨rfl, rfl⟩
        go_wp2_with fail
        go_meet
        case rel => exact ⟨by first | (simp; done) | simpa using hlo, rfl⟩
      · go_wp2_with fail
        go_meet
        case rel => exact ⟨by simp [h48], rfl⟩
    · go_wp2_with fail
      go_meet
      case rel => exact ⟨rfl, rfl⟩
  case rest =>
  obtain ⟨rfl, rfl⟩ := hcut
  go_upto_block 1 with fail
  apply wp_label
  go_upto_block 1 with fail
  go_wp2_with fail
  go_loopw [7, 13, 14, 15, 16, 17, 2, 5, 9] (fun i dt sd nd nm dp m tr us wx => ∃ (j : Nat) (b : Bool) (mv : Int) (t : Bool) (n k : Nat) (p : Int) (d : Bool), i = .int .i64 ((off + j : Nat) : Int) ∧ dt = .bool d ∧ sd = .bool b ∧ nd = .int .i64 (n : Int) ∧ nm = .int .i64 (k : Int) ∧ dp = .int .i64 p ∧ m = .int .u64 mv ∧ tr = .bool t ∧ us = .bool false ∧ j ≤ l.length ∧ (1 ≤ j → b = true) ∧ Hid (sc (l.take j) = ⟨n, p, d⟩ ∧ (0 ≤ mv ∧ mv < 10 ^ k) ∧ (t = true → 20 ≤ n) ∧ k = min n 19) ∧ w = wx) (fun i _ _ _ _ _ _ _ _ _ => off + l.length - (intOf i).toNat)
  case atStart => exact ⟨0, false, 0, false, 0, 0, 0, false, rfl, rfl, rfl, rfl, rfl, rfl, rfl, rfl, rfl, Nat.zero_le _, fun h => absurd h (by omega), Lib.hid ⟨rfl, ⟨by omega, by decide⟩, ⟨fun h => (by cases h), rfl⟩⟩, rfl⟩
  case round =>
    obtain ⟨j, b, mv, t, n, k, p, d, rfl, rfl, rfl, rfl, rfl, rfl, rfl, rfl, rfl, hj, hb, HX, rfl⟩ := hrel
    by_cases hjl : j < l.length
    · obtain ⟨hlt, hbyte⟩ := HN.out.at hjl
      have hsucc := sc_succ hjl
      rw [HX.out.1] at hsucc
      have hby := HN.out.1.byte hjl
      have honce := HN.out.1.once hjl
      have hdt := sc_dot (l.take j)
      rw [HX.out.1] at hdt
      have hbd := sc_bound (l.take j)
      rw [HX.out.1, List.length_take] at hbd
      dsimp only at hbd hdt
      have hin : ((off + j : Nat) : Int) < (s.size : Int) := by omega
      by_cases h46 : l[j] = 46
      · have hn := honce h46
        have hdf : d = false := by rw [hdt]; exact decide_eq_false hn
        subst hdf
        have hx : sc (l.take (j + 1)) = ⟨n, n, true⟩ := by rw [hsucc]; exact if_pos h46
        have HY := Lib.hid (And.intro hx HX.out.2)
        have hj1 : 1 ≤ j := by
          rcases Nat.eq_zero_or_pos j with e | e
          · subst e
            exact absurd (List.head?_eq_getElem?.trans ((List.getElem?_eq_getElem hjl).trans (congrArg some h46))) HN.out.1.first.2.1
          · exact e
        obtain rfl := hb hj1
        have h46b : l[j].toNat = 46 := by rw [h46]; rfl
        clear hsucc hx hby honce hdt h46 hn HX
        as_aux_lemma =>
        go_wp2_with fail
        go_round
        (case rel => exact ⟨j + 1, true, mv, t, n, k, n, true, (by simp; omega), rfl, rfl, (by first | rfl | simp), (by first | rfl | simp), (by first | rfl | simp), rfl, rfl, rfl, by omega, (by first | exact fun _ => rfl | exact hb), HY, by first | rfl | trivial⟩); (case measure => simp [intOf]; omega)
      · obtain ⟨hb1, hb2⟩ := hby.resolve_left h46
        have h46b : ¬ l[j].toNat = 46 := by omega
        have h95 : ¬ l[j].toNat = 95 := by omega
        by_cases h48 : l[j].toNat = 48 ∧ n = 0
        · have hx : sc (l.take (j + 1)) = ⟨0, p - 1, d⟩ := by
            rw [hsucc]
            unfold stp
            rw [if_neg h46, if_pos ⟨UInt8.toNat_inj.1 h48.1, h48.2⟩]
          obtain ⟨h48a, rfl⟩ := h48
          have HY := Lib.hid (And.intro hx HX.out.2)
          clear hsucc hx hby honce hdt h46 HX
          as_aux_lemma =>
          go_wp2_with fail
          go_round
          (case rel => exact ⟨j + 1, true, mv, t, 0, k, (p-1), d, (by simp; omega), rfl, rfl, (by first | rfl | simp), (by first | rfl | simp), (by first | rfl | simp), rfl, rfl, rfl, by omega, (by first | exact fun _ => rfl | exact hb), HY, by first | rfl | trivial⟩); (case measure => simp [intOf]; omega)
        · have hx := hsucc.trans (stp_dig h46 h48)
          have HZ := Lib.hid (And.intro hx HX.out.2)
          have hn0 : l[j].toNat = 48 → ¬ n = 0 := fun h h2 => h48 ⟨h, h2⟩
          clear hsucc hx hby honce hdt h46 HX h48
          by_cases hk19 : n < 19
          · have hkn2 : k = n := by have := HZ.out.2.2.2; omega
            subst hkn2
            have hk19b : (k : Int) < 19 := by omega
            have h10 : (10 : Int) ^ (k + 1) = 10 ^ k * 10 := Int.pow_succ ..
            have hp18 := pow19 (n := k + 1) (by omega)
            obtain ⟨hm1, hm2⟩ := HZ.out.2.1
            have hw1 : IntKind.u64.wrap (mv * 10) = mv * 10 := IntWalk.u64_in _ (by omega)
            have hw2 : IntKind.u8.wrap ((l[j].toNat : Int) - 48) = (l[j].toNat : Int) - 48 := IntWalk.u8_in _ (by omega)
            have hw3 : IntKind.u64.wrap ((l[j].toNat : Int) - 48) = (l[j].toNat : Int) - 48 := IntWalk.u64_in _ (by omega)
            have hw4 : IntKind.u64.wrap (mv * 10 + ((l[j].toNat : Int) - 48)) = mv * 10 + ((l[j].toNat : Int) - 48) := IntWalk.u64_in _ (by omega)
            have HY := Lib.hid (show sc (l.take (j + 1)) = ⟨k + 1, p, d⟩ ∧ (0 ≤ mv * 10 + ((l[j].toNat : Int) - 48) ∧ mv * 10 + ((l[j].toNat : Int) - 48) < 10 ^ (k + 1)) ∧ (t = true → 20 ≤ k + 1) ∧ k + 1 = min (k + 1) 19 from ⟨HZ.out.1, ⟨by omega, by omega⟩, fun h => by have := HZ.out.2.2.1 h; omega, by omega⟩)
            clear h10 hp18 hm1 hm2
            by_cases h48c : l[j].toNat = 48
            · have hnz := hn0 h48c
              have HY3 : Hid (sc (l.take (j + 1)) = ⟨k + 1, p, d⟩ ∧ (0 ≤ mv * 10 ∧ mv * 10 < 10 ^ (k + 1)) ∧ (t = true → 20 ≤ k + 1) ∧ k + 1 = min (k + 1) 19) := by
                obtain ⟨g1, ⟨g2, g3⟩, g4⟩ := HY.out
                exact Lib.hid ⟨g1, ⟨by omega, by omega⟩, g4⟩
              clear HY
              as_aux_lemma =>
              go_wp2_with fail
              go_round
              (case rel => exact ⟨j + 1, true, (mv * 10), t, (k+1), (k+1), p, d, (by simp; omega), rfl, rfl, (by first | rfl | simp), (by first | rfl | simp), (by first | rfl | simp), rfl, rfl, rfl, by omega, (by first | exact fun _ => rfl | exact hb), HY3, by first | rfl | trivial⟩); (case measure => simp [intOf]; omega)
            · go_wp2_with fail
              go_round
              (case rel => exact ⟨j + 1, true, (mv * 10 + ((l[j].toNat : Int) - 48)), t, (k+1), (k+1), p, d, (by simp; omega), rfl, rfl, (by first | rfl | simp), (by first | rfl | simp), (by first | rfl | simp), rfl, rfl, rfl, by omega, (by first | exact fun _ => rfl | exact hb), HY, by first | rfl | trivial⟩); (case measure => simp [intOf]; omega)
          · have hke : k = 19 := by have := HZ.out.2.2.2; omega
            subst hke
            by_cases h48c : l[j].toNat = 48
            · have hnz := hn0 h48c
              have HY := Lib.hid (show sc (l.take (j + 1)) = ⟨n + 1, p, d⟩ ∧ (0 ≤ mv ∧ mv < 10 ^ 19) ∧ (t = true → 20 ≤ n + 1) ∧ 19 = min (n + 1) 19 from ⟨HZ.out.1, HZ.out.2.1, fun h => by omega, by omega⟩)
              as_aux_lemma =>
              go_wp2_with fail
              go_round
              (case rel => exact ⟨j + 1, true, mv, t, (n+1), 19, p, d, (by simp; omega), rfl, rfl, (by first | rfl | simp), (by first | rfl | simp), (by first | rfl | simp), rfl, rfl, rfl, by omega, (by first | exact fun _ => rfl | exact hb), HY, by first | rfl | trivial⟩); (case measure => simp [intOf]; omega)
            · have HY := Lib.hid (show sc (l.take (j + 1)) = ⟨n + 1, p, d⟩ ∧ (0 ≤ mv ∧ mv < 10 ^ 19) ∧ ((true : Bool) = true → 20 ≤ n + 1) ∧ 19 = min (n + 1) 19 from ⟨HZ.out.1, HZ.out.2.1, fun h => by omega, by omega⟩)
              as_aux_lemma =>
              go_wp2_with fail
              go_round
              (case rel => exact ⟨j + 1, true, mv, true, (n+1), 19, p, d, (by simp; omega), rfl, rfl, (by first | rfl | simp), (by first | rfl | simp), (by first | rfl | simp), rfl, rfl, rfl, by omega, (by first | exact fun _ => rfl | exact hb), (Lib.hid (by simpa using HY.out)), by first | rfl | trivial⟩); (case measure => simp [intOf]; omega)
    · have e : j = l.length := by omega
      subst e
      obtain rfl := hb hfst
      have hx := HX.out.1
      rw [List.take_length] at hx
      have hbd := sc_bound l
      rw [hx] at hbd
      dsimp only at hbd
      obtain ⟨hm1, hm2⟩ := HX.out.2.1
      have HY := Lib.hid (show t = true → 20 ≤ (sc l).nd by rw [hx]; exact HX.out.2.2.1)
      have hk19 : k ≤ 19 := by have := HX.out.2.2.2; omega
      have hp19 := pow19 (n := k) hk19
      have hin : ¬ ((off + l.length : Nat) : Int) < (s.size : Int) := by omega
      have hmm : mv < 10000000000000000000 := by omega
      clear hx HX hm2 hp19
      by_cases hm0 : mv = 0
      all_goals
        cases d
        all_goals
          as_aux_lemma =>
          go_wp2_with fail
          refine ret_tmp7 rfl rfl rfl rfl rfl rfl rfl rfl rfl ?_
          exact RFR.mk ⟨by omega, by omega⟩ (by omega) HY.out (by omega)
end Go.Proofs.YtpajcfkldnbpfaaGreatDoor
