/- leftShift. Shift; shouldRoundUp; RoundedInteger. -/
import Derived.Test.YtpajcfkldnbpfaaGreatDoorV32
set_option linter.unusedSimpArgs false
set_option linter.unusedVariables false
namespace Go.Proofs.YtpajcfkldnbpfaaGreatDoor
open Go.RowKit
structure L1 (k n δ j : Nat) (N : Int) (f f' : Nat → Int) : Prop where
  nn : 0 ≤ N
  lt : N < 2 ^ k
  same : ∀ i, i < n - j → f' i = f i
  dig : ∀ i, n + δ - j ≤ i → i < n + δ → 48 ≤ f' i ∧ f' i ≤ 57
  fin : j = n → N < 10 ^ δ ∧ (1 ≤ δ → (10 : Int) ^ (δ - 1) ≤ N) ∧ (δ = 0 → 48 + (f 0 - 48) * 2 ^ k ≤ f' 0)
def LFit (k δ : Nat) (c : Int) : Prop := (c - 47) * 2 ^ k ≤ 10 ^ (δ + 1) ∧ (10 : Int) ^ δ ≤ (c - 48) * 2 ^ k
theorem L1.start {k n δ : Nat} {f : Nat → Int} (hn : 1 ≤ n) : L1 k n δ 0 0 f f := ⟨Int.le_refl _, Int.pow_pos (by omega), fun _ _ => rfl, fun i h1 h2 => absurd h1 (by omega), fun h => absurd h (by omega)⟩
theorem L1.bound {k n δ j : Nat} {N : Int} {f f' : Nat → Int} (h : L1 k n δ j N f f') {c : Int} (hc : 48 ≤ c ∧ c ≤ 57) : 0 ≤ (c - 48) * 2 ^ k ∧ 0 ≤ N + (c - 48) * 2 ^ k ∧ N + (c - 48) * 2 ^ k < 10 * 2 ^ k := by
  have h1 := h.nn
  have h2 := h.lt
  have hK : (0 : Int) < 2 ^ k := Int.pow_pos (by omega)
  have h3 : (c - 48) * 2 ^ k ≤ 9 * 2 ^ k := Int.mul_le_mul_of_nonneg_right (by omega) (by omega)
  have h4 : 0 ≤ (c - 48) * 2 ^ k := Int.mul_nonneg (by omega) (by omega)
  omega
theorem L1.step {k n δ j : Nat} {N : Int} {f f' : Nat → Int} (h : L1 k n δ j N f f') (hj : j < n) (hd : Digs10 f n) (hfit : LFit k δ (f 0)) : L1 k n δ (j + 1) ((N + (f (n - 1 - j) - 48) * 2 ^ k) / 10) f (upd f' (n + δ - j - 1) (N + (f (n - 1 - j) - 48) * 2 ^ k - 10 * ((N + (f (n - 1 - j) - 48) * 2 ^ k) / 10) + 48)) := by
  obtain ⟨hb0, hb1, hb2⟩ := h.bound (hd (n - 1 - j) (by omega))
  refine ⟨by omega, by omega, fun i hi => ?_, fun i h1 h2 => ?_, fun e => ?_⟩
  · rw [← h.same i (by omega)]
    exact if_neg (by omega)
  · unfold upd
    split
    · omega
    · exact h.dig i (by omega) h2
  · have e0 : n - 1 - j = 0 := by omega
    rw [e0] at hb0 hb1 hb2 ⊢
    have hl := h.lt
    have hnn := h.nn
    obtain ⟨f1, f2⟩ := hfit
    have e1 : (10 : Int) ^ (δ + 1) = 10 ^ δ * 10 := Int.pow_succ ..
    have e2 : (f 0 - 47) * 2 ^ k = (f 0 - 48) * 2 ^ k + 2 ^ k := by rw [show f 0 - 47 = (f 0 - 48) + 1 by omega, Int.add_mul, Int.one_mul]
    rw [e1, e2] at f1
    refine ⟨by omega, fun h1 => ?_, fun h1 => ?_⟩
    · have e3 : (10 : Int) ^ δ = 10 ^ (δ - 1) * 10 := by rw [← Int.pow_succ]; congr 1; omega
      omega
    · subst h1
      have e4 : upd f' (n + 0 - j - 1) (N + (f 0 - 48) * 2 ^ k - 10 * ((N + (f 0 - 48) * 2 ^ k) / 10) + 48) 0 = N + (f 0 - 48) * 2 ^ k - 10 * ((N + (f 0 - 48) * 2 ^ k) / 10) + 48 := if_pos (by omega)
      rw [e4]
      have e5 : (10 : Int) ^ 0 = 1 := rfl
      omega
structure L2 (k n δ l : Nat) (N c0 : Int) (f' : Nat → Int) : Prop where
  le : l ≤ δ
  nn : 0 ≤ N
  lt : N < 10 ^ (δ - l)
  ge : l < δ → (10 : Int) ^ (δ - l - 1) ≤ N
  dig : ∀ i, δ - l ≤ i → i < n + δ → 48 ≤ f' i ∧ f' i ≤ 57
  top : l = δ → 1 ≤ δ → 49 ≤ f' 0
  zero : δ = 0 → 48 + (c0 - 48) * 2 ^ k ≤ f' 0
theorem L1.two {k n δ : Nat} {N : Int} {f f' : Nat → Int} (h : L1 k n δ n N f f') : L2 k n δ 0 N (f 0) f' :=
  ⟨Nat.zero_le _, h.nn, (h.fin rfl).1, fun h1 => (h.fin rfl).2.1 h1, fun i h1 h2 => h.dig i (by omega) h2, fun e h1 => absurd e (by omega), (h.fin rfl).2.2⟩
theorem L2.more {k n δ l : Nat} {N c0 : Int} {f' : Nat → Int} (h : L2 k n δ l N c0 f') (hN : 0 < N) : l < δ := by
  have h1 := h.le
  have h2 := h.lt
  rcases Nat.lt_or_ge l δ with h3 | h3
  · exact h3
  · rw [show δ - l = 0 by omega] at h2
    have e5 : (10 : Int) ^ 0 = 1 := rfl
    omega
theorem L2.done {k n δ l : Nat} {N c0 : Int} {f' : Nat → Int} (h : L2 k n δ l N c0 f') (hN : ¬ 0 < N) : l = δ := by
  have h1 := h.le
  rcases Nat.lt_or_ge l δ with h3 | h3
  · have h2 := h.ge h3
    have : (0 : Int) < 10 ^ (δ - l - 1) := Int.pow_pos (by omega)
    omega
  · omega
theorem L2.step {k n δ l : Nat} {N c0 : Int} {f' : Nat → Int} (h : L2 k n δ l N c0 f') (hN : 0 < N) : L2 k n δ (l + 1) (N / 10) c0 (upd f' (δ - l - 1) (N - 10 * (N / 10) + 48)) := by
  have hl := h.more hN
  have h2 := h.lt
  have h3 := h.ge hl
  have e1 : (10 : Int) ^ (δ - l) = 10 ^ (δ - (l + 1)) * 10 := by rw [← Int.pow_succ]; congr 1; omega
  refine ⟨by omega, by omega, by omega, fun h4 => ?_, fun i h4 h5 => ?_, fun e h1 => ?_, fun e => absurd e (by omega)⟩
  · have e2 : (10 : Int) ^ (δ - l - 1) = 10 ^ (δ - (l + 1) - 1) * 10 := by rw [← Int.pow_succ]; congr 1; omega
    omega
  · unfold upd
    split
    · omega
    · exact h.dig i (by omega) h5
  · have e4 : upd f' (δ - l - 1) (N - 10 * (N / 10) + 48) 0 = N - 10 * (N / 10) + 48 := if_pos (by omega)
    rw [e4]
    rw [show δ - l = 1 by omega] at h2
    have e5 : (10 : Int) ^ 1 = 10 := rfl
    omega
def LshR (w0 : World) (d k n δ : Nat) (f : Nat → Int) (dp : Int) (ng : Bool) (e : Ending) (w' : World) : Prop := ∃ (m : Nat) (f' : Nat → Int) (tr : Bool), 1 ≤ m ∧ m ≤ n + δ ∧ Digs10 f' m ∧ f' 0 ≠ 48 ∧ (δ = 0 → 48 + (f 0 - 48) * 2 ^ k ≤ f' 0) ∧ e = .returned (.tuple #[]) ∧ DS w0 d w' f' m (dp + δ) ng tr
theorem pow53 {k : Nat} (h : k ≤ 53) : (2 : Int) ^ k ≤ 9007199254740992 := by
  have : (2 : Int) ^ k ≤ 2 ^ 53 := by exact_mod_cast Nat.pow_le_pow_right (by omega) h
  exact this
theorem under272 : Tryz.prog.underlying 272 = some (.array 800 5) := by kernel_rfl
theorem slice272 (d n : Nat) (hn : n ≤ 800) (W : World) : (Instr.sliceAt 272 (.pointer (some ⟨d, 0, none⟩)) (some (.int .i64 0)) (some (.int .i64 (n : Int))) none).run Tryz.prog W = .ok (.slice (some ⟨d, 0, none⟩) n 800) W := by
  have hal := al272
  have hel : Tryz.prog.elem 272 = 5 := by kernel_rfl
  rw [run_sliceAt_array_lh W 272 ⟨d, 0, none⟩ (by simp [Program.arrayLen, Program.elem, under272]) .i64 .i64 0 (n : Int) (by omega) (by omega) (by rw [hal]; omega)]
  go_simp
set_option maxRecDepth 100000 in
set_option maxHeartbeats 1000000 in
theorem lsh_any (w0 : World) (d : Nat) (f : Nat → Int) (n k δ : Nat) (dp : Int) (ng tr : Bool) (R o cp c : Nat) (δ0 : Int) (s : ByteArray) (w : World) (hS : DS w0 d w f n dp ng tr) (h1 : 1 ≤ n) (h8 : n ≤ 700) (hd : Digs10 f n) (hf : f 0 ≠ 48) (hk2 : k ≤ 53) (hdp : -1000 ≤ dp ∧ dp ≤ 1000)
    (hT : ∀ w', DS w0 d w' f n dp ng tr → w'.cell? ⟨11, 0, none⟩ = some (.slice (some ⟨R, o, none⟩) 61 cp) ∧ w'.cell? ⟨R, o + k * 2, none⟩ = some (.int .i64 δ0) ∧ w'.cell? ⟨R, o + k * 2 + 1, none⟩ = some (.string s))
    (hs : 0 < s.size) (hs2 : s.size ≤ 1000) (hc : (s[0]'hs).toNat = c) (hf2 : f 0 ≠ c) (hδ0 : 0 ≤ δ0 ∧ δ0 ≤ 16) (hδ : (δ : Int) = if f 0 < c then δ0 - 1 else δ0) (hfit : LFit k δ (f 0)) : Calls Tryz.prog 176 #[.pointer (some ⟨d, 0, none⟩), .int .u64 k] w (LshR w0 d k n δ f dp ng) := by
  obtain ⟨hc1, hc2, hc3⟩ := hT w hS
  have HS := Lib.hid (And.intro hS (And.intro hT (And.intro hf2 (And.intro hδ (And.intro hfit (And.intro hd hf))))))
  clear hS hT hf2 hδ hfit hd hf
  have al := al272
  have hk3 : (k : Int) < 61 := by omega
  have hk4 : k < 61 := by omega
  go_enter Tryz.func176, Tryz.ntmps176
  go_upto_region 1 with fail
  have hsl := fun W => slice272 d n (by omega) W
  have c0 := HS.out.1.cell (dec_nd _ _ _ _ _)
  go_quiet (refine Calls.quiet_of (prefix_any w0 d f n _ dp ng tr s c _ (HS.out.1.drewN _) h1 (by omega) hs hs2 hc HS.out.2.2.1))
  have hst := HS.out.1.drewN nq
  have hdl := HS.out.2.2.2.1
  clear c0 hsl hc1 hc2 hc3
  revert hst
  generalize w.drewN nq = wq
  intro hst
  have HQ := Lib.hid hst
  clear hst
  go_upto_if 30 with fail
  go_cut [4] (fun x wx => x = .int .i64 δ ∧ Hid (DS w0 d wx f n dp ng tr))
  case first =>
    by_cases hlt : f 0 < c
    · rw [if_pos hlt] at hdl
      have hw : IntKind.i64.wrap (δ0 - 1) = δ0 - 1 := IntWalk.i64_in _ (by omega)
      go_wp2_with fail
      all_goals
        go_meet
        case rel => exact ⟨by rw [hdl], HQ⟩
    · rw [if_neg hlt] at hdl
      go_wp2_with fail
      all_goals
        go_meet
        case rel => exact ⟨by rw [hdl], HQ⟩
  case rest =>
  obtain ⟨rfl, HL⟩ := hcut
  have hst := HL.out
  have hδ20 : δ ≤ 16 := by split at hdl <;> omega
  have hK := pow53 hk2
  have hK0 : (0 : Int) < 2 ^ k := Int.pow_pos (by omega)
  clear HQ hdl
  go_wp2_with ((first | ((with_reducible refine at_load ?_); first | refine dl_ld hst rfl rfl rfl (one_of (by decide +kernel)) (dec_nd _ _ _ _ _) ?_ | refine dl_ld hst rfl rfl rfl (one_of (by decide +kernel)) (dec_dp _ _ _ _ _) ?_ | refine dl_ld hst rfl rfl rfl (one_of (by decide +kernel)) (dec_ng _ _ _ _ _) ?_ | refine dl_ld hst rfl rfl rfl (one_of (by decide +kernel)) (dec_tr _ _ _ _ _) ?_ | refine dl_ld hst rfl rfl rfl (one_of (by decide +kernel)) (dec_d _ _ _ _ _ (by omega)) ?_) | ((with_reducible refine at_store ?_); (first | refine dl_st hst rfl rfl rfl (rfl : _ = Value.int _ _) rfl (sz1_of (by decide +kernel)) (by decide) (dset_nd _ _ _ _ _ _) ?_ | refine dl_st hst rfl rfl rfl (rfl : _ = Value.int _ _) rfl (sz1_of (by decide +kernel)) (by decide) (dset_dp _ _ _ _ _ _) ?_ | refine dl_st hst rfl rfl rfl (rfl : _ = Value.bool _) rfl (sz1_of (by decide +kernel)) (by decide) (dset_tr _ _ _ _ _ _) ?_ | refine dl_st hst rfl rfl rfl (rfl : _ = Value.bool _) rfl (sz1_of (by decide +kernel)) (by decide) (dset_ng _ _ _ _ _ _) ?_ | refine dl_st hst rfl rfl rfl (rfl : _ = Value.int _ _) rfl (sz1_of (by decide +kernel)) (by omega) (dset_d _ _ _ _ _ _ (by omega)) ?_); clear hst; intro w hst)))
  clear hst
  go_loopw [5, 6, 7] (fun r v x wx => ∃ (j : Nat) (f' : Nat → Int) (N : Int) (tr' : Bool), r = .int .i64 ((n : Int) - 1 - j) ∧ v = .int .i64 ((n : Int) + δ - j) ∧ x = .int .u64 N ∧ j ≤ n ∧ Hid (DS w0 d wx f' n dp ng tr') ∧ Hid (L1 k n δ j N f f')) (fun r _ _ _ => (intOf r + 1).toNat)
  case atStart => exact ⟨0, f, 0, tr, by simp, by simp, rfl, Nat.zero_le _, HL, Lib.hid (L1.start h1)⟩
  case round =>
    obtain ⟨j, f', N, tr', rfl, rfl, rfl, hj, HL, HR⟩ := hrel
    have hst := HL.out
    by_cases hjn : j < n
    · have hge : (0 : Int) ≤ (n : Int) - 1 - j := by omega
      have hlt : (n : Int) - 1 - j < 800 := by omega
      have hlt2 : (n : Int) + δ - j - 1 < 800 := by omega
      have hge2 : (0 : Int) ≤ (n : Int) + δ - j - 1 := by omega
      have cd := hst.cell (dec_d f' n dp ng tr' (i := n - 1 - j) (by omega))
      have hdd := HS.out.2.2.2.2.2.1
      have hc1 := hdd (n - 1 - j) (by omega)
      have esame := HR.out.same (n - 1 - j) (by omega)
      obtain ⟨hb0, hb1, hb2⟩ := HR.out.bound hc1
      have hnn := HR.out.nn
      have hlK := HR.out.lt
      have HST := HR.out.step hjn hdd HS.out.2.2.2.2.1
      rw [← esame] at HST hb0 hb1 hb2 hc1
      replace HST := Lib.hid HST
      clear hdd esame cd
      have hw1 : IntKind.u64.wrap (f' (n - 1 - j)) = f' (n - 1 - j) := IntWalk.u64_in _ (by omega)
      have hw2 : IntKind.u64.wrap (f' (n - 1 - j) - 48) = f' (n - 1 - j) - 48 := IntWalk.u64_in _ (by omega)
      have hw3 : IntKind.u64.wrap ((f' (n - 1 - j) - 48) * 2 ^ k) = (f' (n - 1 - j) - 48) * 2 ^ k := IntWalk.u64_in _ (by omega)
      generalize hSS : N + (f' (n - 1 - j) - 48) * 2 ^ k = S at hb1 hb2 HST
      have hw4 : IntKind.u64.wrap (N + (f' (n - 1 - j) - 48) * 2 ^ k) = S := by rw [hSS]; exact IntWalk.u64_in _ (by omega)
      have hw5 : IntKind.u64.wrap (S.tdiv 10) = S / 10 := IntWalk.u64_quo _ _ ⟨hb1, by omega, by omega⟩
      have hw6 : IntKind.u64.wrap (10 * (S / 10)) = 10 * (S / 10) := IntWalk.u64_in _ (by omega)
      have hw7 : IntKind.u64.wrap (S - 10 * (S / 10)) = S - 10 * (S / 10) := IntWalk.u64_in _ (by omega)
      have hw8 : IntKind.u64.wrap (S - 10 * (S / 10) + 48) = S - 10 * (S / 10) + 48 := IntWalk.u64_in _ (by omega)
      have hw9 : IntKind.u8.wrap (S - 10 * (S / 10) + 48) = S - 10 * (S / 10) + 48 := IntWalk.u8_in _ (by omega)
      have HSS := Lib.hid hSS
      clear hSS
      go_wp2_with ((first | ((with_reducible refine at_load ?_); first | refine dl_ld hst rfl rfl rfl (one_of (by decide +kernel)) (dec_nd _ _ _ _ _) ?_ | refine dl_ld hst rfl rfl rfl (one_of (by decide +kernel)) (dec_dp _ _ _ _ _) ?_ | refine dl_ld hst rfl rfl rfl (one_of (by decide +kernel)) (dec_ng _ _ _ _ _) ?_ | refine dl_ld hst rfl rfl rfl (one_of (by decide +kernel)) (dec_tr _ _ _ _ _) ?_ | refine dl_ld hst rfl rfl rfl (one_of (by decide +kernel)) (dec_d _ _ _ _ _ (by omega)) ?_) | ((with_reducible refine at_store ?_); (first | refine dl_st hst rfl rfl rfl (rfl : _ = Value.int _ _) rfl (sz1_of (by decide +kernel)) (by decide) (dset_nd _ _ _ _ _ _) ?_ | refine dl_st hst rfl rfl rfl (rfl : _ = Value.int _ _) rfl (sz1_of (by decide +kernel)) (by decide) (dset_dp _ _ _ _ _ _) ?_ | refine dl_st hst rfl rfl rfl (rfl : _ = Value.bool _) rfl (sz1_of (by decide +kernel)) (by decide) (dset_tr _ _ _ _ _ _) ?_ | refine dl_st hst rfl rfl rfl (rfl : _ = Value.bool _) rfl (sz1_of (by decide +kernel)) (by decide) (dset_ng _ _ _ _ _ _) ?_ | refine dl_st hst rfl rfl rfl (rfl : _ = Value.int _ _) rfl (sz1_of (by decide +kernel)) (by omega) (dset_d _ _ _ _ _ _ (by omega)) ?_); clear hst; intro w hst)))
      go_round
      case rel => exact ⟨j + 1, upd f' (n + δ - j - 1) (S - 10 * (S / 10) + 48), S / 10, tr', (by congr 1; omega), (by congr 1; omega), rfl, by omega, Lib.hid hst, HST⟩
      case measure => simp [intOf]; omega
    · have ej : j = n := by omega
      subst ej
      have H2 := Lib.hid HR.out.two
      clear HR
      have hz : ¬ (0 : Int) ≤ (j : Int) - 1 - j := by omega
      go_wp2_with fail
      go_loopw [6, 7] (fun v x wx => ∃ (l : Nat) (f' : Nat → Int) (N : Int) (tr' : Bool), v = .int .i64 ((δ : Int) - l) ∧ x = .int .u64 N ∧ Hid (DS w0 d wx f' j dp ng tr') ∧ Hid (L2 k j δ l N (f 0) f')) (fun v _ _ => (intOf v).toNat)
      case atStart => exact ⟨0, f', N, tr', (by congr 1; omega), rfl, HL, H2⟩
      case round =>
        clear hst HL H2
        obtain ⟨l, f2, N, tr2, rfl, rfl, HL, H2⟩ := hrel
        have hst := HL.out
        have hnn := H2.out.nn
        have hle := H2.out.le
        by_cases hN : 0 < N
        · have hl := H2.out.more hN
          have hNb : N < 10000000000000000 := by
            have h3 := H2.out.lt
            have : (10 : Int) ^ (δ - l) ≤ 10 ^ 16 := by exact_mod_cast Nat.pow_le_pow_right (by omega) (by omega)
            have e : (10 : Int) ^ 16 = 10000000000000000 := by decide
            omega
          have hge2 : (0 : Int) ≤ (δ : Int) - l - 1 := by omega
          have hlt2 : (δ : Int) - l - 1 < 800 := by omega
          have hw5 : IntKind.u64.wrap (N.tdiv 10) = N / 10 := IntWalk.u64_quo _ _ ⟨hnn, by omega, by omega⟩
          have hw6 : IntKind.u64.wrap (10 * (N / 10)) = 10 * (N / 10) := IntWalk.u64_in _ (by omega)
          have hw7 : IntKind.u64.wrap (N - 10 * (N / 10)) = N - 10 * (N / 10) := IntWalk.u64_in _ (by omega)
          have hw8 : IntKind.u64.wrap (N - 10 * (N / 10) + 48) = N - 10 * (N / 10) + 48 := IntWalk.u64_in _ (by omega)
          have hw9 : IntKind.u8.wrap (N - 10 * (N / 10) + 48) = N - 10 * (N / 10) + 48 := IntWalk.u8_in _ (by omega)
          go_wp2_with ((first | ((with_reducible refine at_load ?_); first | refine dl_ld hst rfl rfl rfl (one_of (by decide +kernel)) (dec_nd _ _ _ _ _) ?_ | refine dl_ld hst rfl rfl rfl (one_of (by decide +kernel)) (dec_dp _ _ _ _ _) ?_ | refine dl_ld hst rfl rfl rfl (one_of (by decide +kernel)) (dec_ng _ _ _ _ _) ?_ | refine dl_ld hst rfl rfl rfl (one_of (by decide +kernel)) (dec_tr _ _ _ _ _) ?_ | refine dl_ld hst rfl rfl rfl (one_of (by decide +kernel)) (dec_d _ _ _ _ _ (by omega)) ?_) | ((with_reducible refine at_store ?_); (first | refine dl_st hst rfl rfl rfl (rfl : _ = Value.int _ _) rfl (sz1_of (by decide +kernel)) (by decide) (dset_nd _ _ _ _ _ _) ?_ | refine dl_st hst rfl rfl rfl (rfl : _ = Value.int _ _) rfl (sz1_of (by decide +kernel)) (by decide) (dset_dp _ _ _ _ _ _) ?_ | refine dl_st hst rfl rfl rfl (rfl : _ = Value.bool _) rfl (sz1_of (by decide +kernel)) (by decide) (dset_tr _ _ _ _ _ _) ?_ | refine dl_st hst rfl rfl rfl (rfl : _ = Value.bool _) rfl (sz1_of (by decide +kernel)) (by decide) (dset_ng _ _ _ _ _ _) ?_ | refine dl_st hst rfl rfl rfl (rfl : _ = Value.int _ _) rfl (sz1_of (by decide +kernel)) (by omega) (dset_d _ _ _ _ _ _ (by omega)) ?_); clear hst; intro w hst)))
          go_round
          case rel => exact ⟨l + 1, upd f2 (δ - l - 1) (N - 10 * (N / 10) + 48), N / 10, tr2, (by congr 1; omega), rfl, Lib.hid hst, Lib.hid (H2.out.step hN)⟩
          case measure => simp [intOf]; omega
        · have el := H2.out.done hN
          have hnd : (j : Int) + δ < 800 := by omega
          have hndn : ¬ (800 : Int) ≤ (j : Int) + δ := by omega
          go_wp2_with ((first | ((with_reducible refine at_load ?_); first | refine dl_ld hst rfl rfl rfl (one_of (by decide +kernel)) (dec_nd _ _ _ _ _) ?_ | refine dl_ld hst rfl rfl rfl (one_of (by decide +kernel)) (dec_dp _ _ _ _ _) ?_ | refine dl_ld hst rfl rfl rfl (one_of (by decide +kernel)) (dec_ng _ _ _ _ _) ?_ | refine dl_ld hst rfl rfl rfl (one_of (by decide +kernel)) (dec_tr _ _ _ _ _) ?_ | refine dl_ld hst rfl rfl rfl (one_of (by decide +kernel)) (dec_d _ _ _ _ _ (by omega)) ?_) | ((with_reducible refine at_store ?_); (first | refine dl_st hst rfl rfl rfl (rfl : _ = Value.int _ _) rfl (sz1_of (by decide +kernel)) (by decide) (dset_nd _ _ _ _ _ _) ?_ | refine dl_st hst rfl rfl rfl (rfl : _ = Value.int _ _) rfl (sz1_of (by decide +kernel)) (by decide) (dset_dp _ _ _ _ _ _) ?_ | refine dl_st hst rfl rfl rfl (rfl : _ = Value.bool _) rfl (sz1_of (by decide +kernel)) (by decide) (dset_tr _ _ _ _ _ _) ?_ | refine dl_st hst rfl rfl rfl (rfl : _ = Value.bool _) rfl (sz1_of (by decide +kernel)) (by decide) (dset_ng _ _ _ _ _ _) ?_ | refine dl_st hst rfl rfl rfl (rfl : _ = Value.int _ _) rfl (sz1_of (by decide +kernel)) (by omega) (dset_d _ _ _ _ _ _ (by omega)) ?_); clear hst; intro w hst)))
          have hst2 : DS w0 d w f2 ((j + δ : Nat) : Int) (dp + δ) ng tr2 := by push_cast; exact hst
          clear hst
          have hfin := H2.out
          have hf0 : f2 0 ≠ 48 := by
            intro h48
            rcases Nat.eq_zero_or_pos δ with h0 | h0
            · have h3 := hfin.zero h0
              have h4 := HS.out.2.2.2.2.1.2
              rw [h0] at h4
              have e5 : (10 : Int) ^ 0 = 1 := rfl
              omega
            · have := hfin.top el h0
              omega
          refine (trim_any w0 d f2 (j + δ) _ ng tr2 _ hst2 (by omega) (by omega) hf0).mono ?_
          rintro e w4 ⟨m, hm1, hm2, rfl, hst4⟩
          go_wp2_with fail
          exact ret_none rfl rfl ⟨m, f2, tr2, hm1, by omega, fun i hi => hfin.dig i (by omega) (by omega), hf0, hfin.zero, rfl, hst4⟩
end Go.Proofs.YtpajcfkldnbpfaaGreatDoor
namespace Go.Proofs.YtpajcfkldnbpfaaGreatDoor
open Go.RowKit
set_option maxRecDepth 100000 in
theorem shiftR_any (w0 : World) (d : Nat) (f : Nat → Int) (n k : Nat) (dp : Int) (ng tr : Bool) (w : World) (hS : DS w0 d w f n dp ng tr) (h1 : 1 ≤ n) (h8 : n ≤ 700) (hd : Digs10 f n) (hf : f 0 ≠ 48) (hk : 1 ≤ k) (hk2 : k ≤ 27) (hdp : -1000 ≤ dp ∧ dp ≤ 1000) : Calls Tryz.prog 136 #[.pointer (some ⟨d, 0, none⟩), .int .i64 (-(k : Int))] w (RshR w0 d k f n dp ng) := by
  have hc := Lib.hid (rsh_any w0 d f n k dp ng tr w hS h1 h8 hd hf hk hk2 hdp)
  have hst := hS
  clear hd hf hS
  have hn0 : ¬ (n : Int) = 0 := by omega
  have hk3 : ¬ (0 : Int) < -(k : Int) := by omega
  have hk4 : -(k : Int) < 0 := by omega
  have hk5 : ¬ -(k : Int) < -60 := by omega
  go_enter Tryz.func136, Tryz.ntmps136
  go_wp2_with ((first | ((with_reducible refine at_load ?_); first | refine dl_ld hst rfl rfl rfl (one_of (by decide +kernel)) (dec_nd _ _ _ _ _) ?_ | refine dl_ld hst rfl rfl rfl (one_of (by decide +kernel)) (dec_dp _ _ _ _ _) ?_ | refine dl_ld hst rfl rfl rfl (one_of (by decide +kernel)) (dec_ng _ _ _ _ _) ?_ | refine dl_ld hst rfl rfl rfl (one_of (by decide +kernel)) (dec_tr _ _ _ _ _) ?_ | refine dl_ld hst rfl rfl rfl (one_of (by decide +kernel)) (dec_d _ _ _ _ _ (by omega)) ?_) | ((with_reducible refine at_store ?_); (first | refine dl_st hst rfl rfl rfl (rfl : _ = Value.int _ _) rfl (sz1_of (by decide +kernel)) (by decide) (dset_nd _ _ _ _ _ _) ?_ | refine dl_st hst rfl rfl rfl (rfl : _ = Value.int _ _) rfl (sz1_of (by decide +kernel)) (by decide) (dset_dp _ _ _ _ _ _) ?_ | refine dl_st hst rfl rfl rfl (rfl : _ = Value.bool _) rfl (sz1_of (by decide +kernel)) (by decide) (dset_tr _ _ _ _ _ _) ?_ | refine dl_st hst rfl rfl rfl (rfl : _ = Value.bool _) rfl (sz1_of (by decide +kernel)) (by decide) (dset_ng _ _ _ _ _ _) ?_ | refine dl_st hst rfl rfl rfl (rfl : _ = Value.int _ _) rfl (sz1_of (by decide +kernel)) (by omega) (dset_d _ _ _ _ _ _ (by omega)) ?_); clear hst; intro w hst)))
  go_loopw [1] (fun v wx => v = .int .i64 (-(k : Int)) ∧ wx = w) (fun _ _ => 0)
  case atStart => exact ⟨rfl, rfl⟩
  case round =>
    obtain ⟨rfl, rfl⟩ := hrel
    have hw1 : IntKind.u64.wrap (k : Int) = k := IntWalk.u64_in _ (by omega)
    go_wp2_with fail
    refine hc.out.mono ?_
    rintro e w4 ⟨r, m, f', tr', h1, h2, h3, h4, h5, h6, h7, h8, h9, rfl, hst4⟩
    go_wp2_with fail
    exact ret_none rfl rfl ⟨r, m, f', tr', h1, h2, h3, h4, h5, h6, h7, h8, h9, rfl, hst4⟩
theorem cheat_at {w0 : World} {d : Nat} {f : Nat → Int} {n : Nat} {dp : Int} {ng tr : Bool} {w' : World} (hT : Tabs w0) (hS : DS w0 d w' f n dp ng tr) : Tabs w' := hT.below hS.st.kp.below
set_option maxRecDepth 100000 in
theorem shiftL_any (w0 : World) (d : Nat) (f : Nat → Int) (n k δ : Nat) (dp : Int) (ng tr : Bool) (w : World) (hS : DS w0 d w f n dp ng tr) (h1 : 1 ≤ n) (h8 : n ≤ 700) (hd : Digs10 f n) (hf : f 0 ≠ 48) (hk : (k = 1 ∧ δ = 0 ∧ f 0 ≤ 52) ∨ (k = 53 ∧ δ = 16 ∧ 53 ≤ f 0)) (hdp : -1000 ≤ dp ∧ dp ≤ 1000) (hT : Tabs w0) : Calls Tryz.prog 136 #[.pointer (some ⟨d, 0, none⟩), .int .i64 (k : Int)] w (LshR w0 d k n δ f dp ng) := by
  have hc : Calls Tryz.prog 176 #[.pointer (some ⟨d, 0, none⟩), .int .u64 k] w (LshR w0 d k n δ f dp ng) := by
    obtain ⟨R, o, cp, hg, h1c, h53⟩ := hT.cheats
    have hd0 := hd 0 (by omega)
    have e2 : (10 : Int) ^ (0 + 1) = 10 := rfl
    have e3 : (10 : Int) ^ 0 = 1 := rfl
    have e4 : (2 : Int) ^ 1 = 2 := rfl
    have e5 : (10 : Int) ^ (16 + 1) = 100000000000000000 := by decide
    have e6 : (10 : Int) ^ 16 = 10000000000000000 := by decide
    have e7 : (2 : Int) ^ 53 = 9007199254740992 := by decide
    rcases hk with ⟨rfl, rfl, hk3⟩ | ⟨rfl, rfl, hk3⟩
    · refine lsh_any w0 d f n 1 0 dp ng tr R o cp 53 1 ⟨#[53]⟩ w hS h1 h8 hd hf (by omega) hdp (fun w' h => ?_) (by decide) (by decide) rfl (by omega) (by omega) (by rw [if_pos (by omega)]; rfl) ⟨?_, ?_⟩
      · exact ⟨below_cell h.st.kp.below hg, below_cell h.st.kp.below h1c.1, below_cell h.st.kp.below h1c.2⟩
      · rw [e2, e4]; omega
      · rw [e3, e4]; omega
    · refine lsh_any w0 d f n 53 16 dp ng tr R o cp 49 16 ⟨cut53.toArray⟩ w hS h1 h8 hd hf (by omega) hdp (fun w' h => ?_) (by decide) (by decide) rfl (by omega) (by omega) (by rw [if_neg (by omega)]; rfl) ⟨?_, ?_⟩
      · exact ⟨below_cell h.st.kp.below hg, below_cell h.st.kp.below h53.1, below_cell h.st.kp.below h53.2⟩
      · rw [e5, e7]; omega
      · rw [e6, e7]; omega
  have HC := Lib.hid hc
  have hst := hS
  clear hd hf hS hc
  have hn0 : ¬ (n : Int) = 0 := by omega
  have hk3 : (0 : Int) < (k : Int) := by omega
  have hk5 : ¬ (60 : Int) < (k : Int) := by omega
  go_enter Tryz.func136, Tryz.ntmps136
  go_wp2_with ((first | ((with_reducible refine at_load ?_); first | refine dl_ld hst rfl rfl rfl (one_of (by decide +kernel)) (dec_nd _ _ _ _ _) ?_ | refine dl_ld hst rfl rfl rfl (one_of (by decide +kernel)) (dec_dp _ _ _ _ _) ?_ | refine dl_ld hst rfl rfl rfl (one_of (by decide +kernel)) (dec_ng _ _ _ _ _) ?_ | refine dl_ld hst rfl rfl rfl (one_of (by decide +kernel)) (dec_tr _ _ _ _ _) ?_ | refine dl_ld hst rfl rfl rfl (one_of (by decide +kernel)) (dec_d _ _ _ _ _ (by omega)) ?_) | ((with_reducible refine at_store ?_); (first | refine dl_st hst rfl rfl rfl (rfl : _ = Value.int _ _) rfl (sz1_of (by decide +kernel)) (by decide) (dset_nd _ _ _ _ _ _) ?_ | refine dl_st hst rfl rfl rfl (rfl : _ = Value.int _ _) rfl (sz1_of (by decide +kernel)) (by decide) (dset_dp _ _ _ _ _ _) ?_ | refine dl_st hst rfl rfl rfl (rfl : _ = Value.bool _) rfl (sz1_of (by decide +kernel)) (by decide) (dset_tr _ _ _ _ _ _) ?_ | refine dl_st hst rfl rfl rfl (rfl : _ = Value.bool _) rfl (sz1_of (by decide +kernel)) (by decide) (dset_ng _ _ _ _ _ _) ?_ | refine dl_st hst rfl rfl rfl (rfl : _ = Value.int _ _) rfl (sz1_of (by decide +kernel)) (by omega) (dset_d _ _ _ _ _ _ (by omega)) ?_); clear hst; intro w hst)))
  go_loopw [1] (fun v wx => v = .int .i64 (k : Int) ∧ wx = w) (fun _ _ => 0)
  case atStart => exact ⟨rfl, rfl⟩
  case round =>
    obtain ⟨rfl, rfl⟩ := hrel
    have hw1 : IntKind.u64.wrap (k : Int) = k := IntWalk.u64_in _ (by omega)
    go_wp2_with fail
    refine HC.out.mono ?_
    rintro e w4 ⟨m, f', tr', h1, h2, h3, h4, h5, rfl, hst4⟩
    go_wp2_with fail
    exact ret_none rfl rfl ⟨m, f', tr', h1, h2, h3, h4, h5, rfl, hst4⟩
def DecBol (w0 : World) (d : Nat) (f : Nat → Int) (n dp : Int) (ng tr : Bool) (e : Ending) (w' : World) : Prop := ∃ b : Bool, e = .returned (.bool b) ∧ DS w0 d w' f n dp ng tr
set_option maxRecDepth 100000 in
theorem round_any (w0 : World) (d : Nat) (f : Nat → Int) (n : Nat) (q dp : Int) (ng tr : Bool) (w : World) (hS : DS w0 d w f n dp ng tr) (h8 : n ≤ 800) (hd : Digs10 f n) (hq : 0 ≤ q ∧ q ≤ 100) : Calls Tryz.prog 178 #[.pointer (some ⟨d, 0, none⟩), .int .i64 q] w (DecBol w0 d f n dp ng tr) := by
  obtain ⟨q, rfl⟩ : ∃ m : Nat, q = m := ⟨q.toNat, by omega⟩
  have hst := hS
  have al := al272
  have HD := Lib.hid hd
  clear hS hd
  have c0 := hst.cell (dec_nd _ _ _ _ _)
  have c3 := hst.cell (dec_tr _ _ _ _ _)
  have hq0 : ¬ (q : Int) < 0 := by omega
  by_cases hqn : n ≤ q
  · have hqn2 : (n : Int) ≤ q := by omega
    go_enter Tryz.func178, Tryz.ntmps178
    go_wp2_with ((first | ((with_reducible refine at_load ?_); first | refine dl_ld hst rfl rfl rfl (one_of (by decide +kernel)) (dec_nd _ _ _ _ _) ?_ | refine dl_ld hst rfl rfl rfl (one_of (by decide +kernel)) (dec_dp _ _ _ _ _) ?_ | refine dl_ld hst rfl rfl rfl (one_of (by decide +kernel)) (dec_ng _ _ _ _ _) ?_ | refine dl_ld hst rfl rfl rfl (one_of (by decide +kernel)) (dec_tr _ _ _ _ _) ?_ | refine dl_ld hst rfl rfl rfl (one_of (by decide +kernel)) (dec_d _ _ _ _ _ (by omega)) ?_) | ((with_reducible refine at_store ?_); (first | refine dl_st hst rfl rfl rfl (rfl : _ = Value.int _ _) rfl (sz1_of (by decide +kernel)) (by decide) (dset_nd _ _ _ _ _ _) ?_ | refine dl_st hst rfl rfl rfl (rfl : _ = Value.int _ _) rfl (sz1_of (by decide +kernel)) (by decide) (dset_dp _ _ _ _ _ _) ?_ | refine dl_st hst rfl rfl rfl (rfl : _ = Value.bool _) rfl (sz1_of (by decide +kernel)) (by decide) (dset_tr _ _ _ _ _ _) ?_ | refine dl_st hst rfl rfl rfl (rfl : _ = Value.bool _) rfl (sz1_of (by decide +kernel)) (by decide) (dset_ng _ _ _ _ _ _) ?_ | refine dl_st hst rfl rfl rfl (rfl : _ = Value.int _ _) rfl (sz1_of (by decide +kernel)) (by omega) (dset_d _ _ _ _ _ _ (by omega)) ?_); clear hst; intro w hst)))
    exact ret_tmp rfl rfl rfl ⟨_, rfl, hst⟩
  · have hqn2 : ¬ (n : Int) ≤ q := by omega
    have hlt : (q : Int) < 800 := by omega
    have cq := hst.cell (dec_d f n dp ng tr (i := q) (by omega))
    by_cases h53 : f q = 53
    · by_cases hl : (q : Int) + 1 = n
      · by_cases h0 : q = 0
        · subst h0
          cases tr <;> (go_enter Tryz.func178, Tryz.ntmps178; go_wp2_with ((first | ((with_reducible refine at_load ?_); first | refine dl_ld hst rfl rfl rfl (one_of (by decide +kernel)) (dec_nd _ _ _ _ _) ?_ | refine dl_ld hst rfl rfl rfl (one_of (by decide +kernel)) (dec_dp _ _ _ _ _) ?_ | refine dl_ld hst rfl rfl rfl (one_of (by decide +kernel)) (dec_ng _ _ _ _ _) ?_ | refine dl_ld hst rfl rfl rfl (one_of (by decide +kernel)) (dec_tr _ _ _ _ _) ?_ | refine dl_ld hst rfl rfl rfl (one_of (by decide +kernel)) (dec_d _ _ _ _ _ (by omega)) ?_) | ((with_reducible refine at_store ?_); (first | refine dl_st hst rfl rfl rfl (rfl : _ = Value.int _ _) rfl (sz1_of (by decide +kernel)) (by decide) (dset_nd _ _ _ _ _ _) ?_ | refine dl_st hst rfl rfl rfl (rfl : _ = Value.int _ _) rfl (sz1_of (by decide +kernel)) (by decide) (dset_dp _ _ _ _ _ _) ?_ | refine dl_st hst rfl rfl rfl (rfl : _ = Value.bool _) rfl (sz1_of (by decide +kernel)) (by decide) (dset_tr _ _ _ _ _ _) ?_ | refine dl_st hst rfl rfl rfl (rfl : _ = Value.bool _) rfl (sz1_of (by decide +kernel)) (by decide) (dset_ng _ _ _ _ _ _) ?_ | refine dl_st hst rfl rfl rfl (rfl : _ = Value.int _ _) rfl (sz1_of (by decide +kernel)) (by omega) (dset_d _ _ _ _ _ _ (by omega)) ?_); clear hst; intro w hst))); all_goals exact ret_tmp rfl rfl rfl ⟨_, rfl, hst⟩)
        · have cq1 := hst.cell (dec_d f n dp ng tr (i := q - 1) (by omega))
          obtain ⟨hf1, hf2⟩ := HD.out (q - 1) (by omega)
          have h1 : (0 : Int) ≤ (q : Int) - 1 := by omega
          have h2 : (q : Int) - 1 < 800 := by omega
          have h3 : (0 : Int) < q := by omega
          cases tr <;> (go_enter Tryz.func178, Tryz.ntmps178; go_wp2_with ((first | ((with_reducible refine at_load ?_); first | refine dl_ld hst rfl rfl rfl (one_of (by decide +kernel)) (dec_nd _ _ _ _ _) ?_ | refine dl_ld hst rfl rfl rfl (one_of (by decide +kernel)) (dec_dp _ _ _ _ _) ?_ | refine dl_ld hst rfl rfl rfl (one_of (by decide +kernel)) (dec_ng _ _ _ _ _) ?_ | refine dl_ld hst rfl rfl rfl (one_of (by decide +kernel)) (dec_tr _ _ _ _ _) ?_ | refine dl_ld hst rfl rfl rfl (one_of (by decide +kernel)) (dec_d _ _ _ _ _ (by omega)) ?_) | ((with_reducible refine at_store ?_); (first | refine dl_st hst rfl rfl rfl (rfl : _ = Value.int _ _) rfl (sz1_of (by decide +kernel)) (by decide) (dset_nd _ _ _ _ _ _) ?_ | refine dl_st hst rfl rfl rfl (rfl : _ = Value.int _ _) rfl (sz1_of (by decide +kernel)) (by decide) (dset_dp _ _ _ _ _ _) ?_ | refine dl_st hst rfl rfl rfl (rfl : _ = Value.bool _) rfl (sz1_of (by decide +kernel)) (by decide) (dset_tr _ _ _ _ _ _) ?_ | refine dl_st hst rfl rfl rfl (rfl : _ = Value.bool _) rfl (sz1_of (by decide +kernel)) (by decide) (dset_ng _ _ _ _ _ _) ?_ | refine dl_st hst rfl rfl rfl (rfl : _ = Value.int _ _) rfl (sz1_of (by decide +kernel)) (by omega) (dset_d _ _ _ _ _ _ (by omega)) ?_); clear hst; intro w hst))); all_goals exact ret_tmp rfl rfl rfl ⟨_, rfl, hst⟩)
      · go_enter Tryz.func178, Tryz.ntmps178
        go_wp2_with ((first | ((with_reducible refine at_load ?_); first | refine dl_ld hst rfl rfl rfl (one_of (by decide +kernel)) (dec_nd _ _ _ _ _) ?_ | refine dl_ld hst rfl rfl rfl (one_of (by decide +kernel)) (dec_dp _ _ _ _ _) ?_ | refine dl_ld hst rfl rfl rfl (one_of (by decide +kernel)) (dec_ng _ _ _ _ _) ?_ | refine dl_ld hst rfl rfl rfl (one_of (by decide +kernel)) (dec_tr _ _ _ _ _) ?_ | refine dl_ld hst rfl rfl rfl (one_of (by decide +kernel)) (dec_d _ _ _ _ _ (by omega)) ?_) | ((with_reducible refine at_store ?_); (first | refine dl_st hst rfl rfl rfl (rfl : _ = Value.int _ _) rfl (sz1_of (by decide +kernel)) (by decide) (dset_nd _ _ _ _ _ _) ?_ | refine dl_st hst rfl rfl rfl (rfl : _ = Value.int _ _) rfl (sz1_of (by decide +kernel)) (by decide) (dset_dp _ _ _ _ _ _) ?_ | refine dl_st hst rfl rfl rfl (rfl : _ = Value.bool _) rfl (sz1_of (by decide +kernel)) (by decide) (dset_tr _ _ _ _ _ _) ?_ | refine dl_st hst rfl rfl rfl (rfl : _ = Value.bool _) rfl (sz1_of (by decide +kernel)) (by decide) (dset_ng _ _ _ _ _ _) ?_ | refine dl_st hst rfl rfl rfl (rfl : _ = Value.int _ _) rfl (sz1_of (by decide +kernel)) (by omega) (dset_d _ _ _ _ _ _ (by omega)) ?_); clear hst; intro w hst)))
        all_goals exact ret_tmp rfl rfl rfl ⟨_, rfl, hst⟩
    · go_enter Tryz.func178, Tryz.ntmps178
      go_wp2_with ((first | ((with_reducible refine at_load ?_); first | refine dl_ld hst rfl rfl rfl (one_of (by decide +kernel)) (dec_nd _ _ _ _ _) ?_ | refine dl_ld hst rfl rfl rfl (one_of (by decide +kernel)) (dec_dp _ _ _ _ _) ?_ | refine dl_ld hst rfl rfl rfl (one_of (by decide +kernel)) (dec_ng _ _ _ _ _) ?_ | refine dl_ld hst rfl rfl rfl (one_of (by decide +kernel)) (dec_tr _ _ _ _ _) ?_ | refine dl_ld hst rfl rfl rfl (one_of (by decide +kernel)) (dec_d _ _ _ _ _ (by omega)) ?_) | ((with_reducible refine at_store ?_); (first | refine dl_st hst rfl rfl rfl (rfl : _ = Value.int _ _) rfl (sz1_of (by decide +kernel)) (by decide) (dset_nd _ _ _ _ _ _) ?_ | refine dl_st hst rfl rfl rfl (rfl : _ = Value.int _ _) rfl (sz1_of (by decide +kernel)) (by decide) (dset_dp _ _ _ _ _ _) ?_ | refine dl_st hst rfl rfl rfl (rfl : _ = Value.bool _) rfl (sz1_of (by decide +kernel)) (by decide) (dset_tr _ _ _ _ _ _) ?_ | refine dl_st hst rfl rfl rfl (rfl : _ = Value.bool _) rfl (sz1_of (by decide +kernel)) (by decide) (dset_ng _ _ _ _ _ _) ?_ | refine dl_st hst rfl rfl rfl (rfl : _ = Value.int _ _) rfl (sz1_of (by decide +kernel)) (by omega) (dset_d _ _ _ _ _ _ (by omega)) ?_); clear hst; intro w hst)))
      all_goals exact ret_tmp rfl rfl rfl ⟨_, rfl, hst⟩
def DecU (w0 : World) (d : Nat) (f : Nat → Int) (n dp : Int) (ng tr : Bool) (e : Ending) (w' : World) : Prop := ∃ u : Int, (0 ≤ u ∧ u ≤ 18446744073709551615) ∧ e = .returned (.int .u64 u) ∧ DS w0 d w' f n dp ng tr
theorem u64_rng (x : Int) : 0 ≤ IntKind.u64.wrap x ∧ IntKind.u64.wrap x ≤ 18446744073709551615 := by
  rw [IntKind.wrap_u64]
  omega
set_option maxRecDepth 100000 in
theorem rounded_any (w0 : World) (d : Nat) (f : Nat → Int) (n : Nat) (p : Nat) (ng tr : Bool) (w : World) (hS : DS w0 d w f n p ng tr) (h8 : n ≤ 800) (hd : Digs10 f n) (hp : p ≤ 20) : Calls Tryz.prog 195 #[.pointer (some ⟨d, 0, none⟩)] w (DecU w0 d f n p ng tr) := by
  have hR := Lib.hid (round_any w0 d f n p p ng tr w hS h8 hd (by omega))
  have hst := hS
  have al := al272
  have HD := Lib.hid hd
  clear hS hd
  have c0 := hst.cell (dec_nd _ _ _ _ _)
  have c1 := hst.cell (dec_dp _ _ _ _ _)
  have hp20 : ¬ (20 : Int) < p := by omega
  go_enter Tryz.func195, Tryz.ntmps195
  go_wp2_with ((first | ((with_reducible refine at_load ?_); first | refine dl_ld hst rfl rfl rfl (one_of (by decide +kernel)) (dec_nd _ _ _ _ _) ?_ | refine dl_ld hst rfl rfl rfl (one_of (by decide +kernel)) (dec_dp _ _ _ _ _) ?_ | refine dl_ld hst rfl rfl rfl (one_of (by decide +kernel)) (dec_ng _ _ _ _ _) ?_ | refine dl_ld hst rfl rfl rfl (one_of (by decide +kernel)) (dec_tr _ _ _ _ _) ?_ | refine dl_ld hst rfl rfl rfl (one_of (by decide +kernel)) (dec_d _ _ _ _ _ (by omega)) ?_) | ((with_reducible refine at_store ?_); (first | refine dl_st hst rfl rfl rfl (rfl : _ = Value.int _ _) rfl (sz1_of (by decide +kernel)) (by decide) (dset_nd _ _ _ _ _ _) ?_ | refine dl_st hst rfl rfl rfl (rfl : _ = Value.int _ _) rfl (sz1_of (by decide +kernel)) (by decide) (dset_dp _ _ _ _ _ _) ?_ | refine dl_st hst rfl rfl rfl (rfl : _ = Value.bool _) rfl (sz1_of (by decide +kernel)) (by decide) (dset_tr _ _ _ _ _ _) ?_ | refine dl_st hst rfl rfl rfl (rfl : _ = Value.bool _) rfl (sz1_of (by decide +kernel)) (by decide) (dset_ng _ _ _ _ _ _) ?_ | refine dl_st hst rfl rfl rfl (rfl : _ = Value.int _ _) rfl (sz1_of (by decide +kernel)) (by omega) (dset_d _ _ _ _ _ _ (by omega)) ?_); clear hst; intro w hst)))
  go_loopw [3, 4] (fun v x wx => ∃ (i : Nat) (u : Int), v = .int .i64 i ∧ x = .int .u64 u ∧ (0 ≤ u ∧ u ≤ 18446744073709551615) ∧ i ≤ p ∧ wx = w) (fun v _ _ => p - (intOf v).toNat)
  case atStart => exact ⟨0, 0, rfl, rfl, by omega, by omega, rfl⟩
  case round =>
    obtain ⟨i, u, rfl, rfl, hu, hi, hwx⟩ := hrel
    have hwx2 := hwx.symm
    subst hwx2
    by_cases hip : (i : Int) < p
    · by_cases hin : (i : Int) < n
      · have hlt : (i : Int) < 800 := by omega
        obtain ⟨hf1, hf2⟩ := HD.out i (by omega)
        go_wp2_with ((first | ((with_reducible refine at_load ?_); first | refine dl_ld hst rfl rfl rfl (one_of (by decide +kernel)) (dec_nd _ _ _ _ _) ?_ | refine dl_ld hst rfl rfl rfl (one_of (by decide +kernel)) (dec_dp _ _ _ _ _) ?_ | refine dl_ld hst rfl rfl rfl (one_of (by decide +kernel)) (dec_ng _ _ _ _ _) ?_ | refine dl_ld hst rfl rfl rfl (one_of (by decide +kernel)) (dec_tr _ _ _ _ _) ?_ | refine dl_ld hst rfl rfl rfl (one_of (by decide +kernel)) (dec_d _ _ _ _ _ (by omega)) ?_) | ((with_reducible refine at_store ?_); (first | refine dl_st hst rfl rfl rfl (rfl : _ = Value.int _ _) rfl (sz1_of (by decide +kernel)) (by decide) (dset_nd _ _ _ _ _ _) ?_ | refine dl_st hst rfl rfl rfl (rfl : _ = Value.int _ _) rfl (sz1_of (by decide +kernel)) (by decide) (dset_dp _ _ _ _ _ _) ?_ | refine dl_st hst rfl rfl rfl (rfl : _ = Value.bool _) rfl (sz1_of (by decide +kernel)) (by decide) (dset_tr _ _ _ _ _ _) ?_ | refine dl_st hst rfl rfl rfl (rfl : _ = Value.bool _) rfl (sz1_of (by decide +kernel)) (by decide) (dset_ng _ _ _ _ _ _) ?_ | refine dl_st hst rfl rfl rfl (rfl : _ = Value.int _ _) rfl (sz1_of (by decide +kernel)) (by omega) (dset_d _ _ _ _ _ _ (by omega)) ?_); clear hst; intro w hst)))
        go_round
        case rel => exact ⟨i + 1, _, rfl, rfl, u64_rng _, by omega, by first | rfl | trivial⟩
        case measure => simp [intOf]; omega
      · go_wp2_with fail
        go_loopw [3, 4] (fun v x wx => ∃ (i : Nat) (u : Int), v = .int .i64 i ∧ x = .int .u64 u ∧ (0 ≤ u ∧ u ≤ 18446744073709551615) ∧ i ≤ p ∧ wx = w) (fun v _ _ => p - (intOf v).toNat)
        case atStart => exact ⟨i, u, rfl, rfl, hu, hi, rfl⟩
        case round =>
          clear hip hin hi hu
          obtain ⟨i, u, rfl, rfl, hu, hi, hwx⟩ := hrel
          have hwx2 := hwx.symm
          subst hwx2
          by_cases hip : (i : Int) < p
          · go_wp2_with fail
            go_round
            case rel => exact ⟨i + 1, _, rfl, rfl, u64_rng _, by omega, by first | rfl | trivial⟩
            case measure => simp [intOf]; omega
          · go_wp2_with fail
            refine hR.out.mono ?_
            rintro e w4 ⟨b, rfl, hst4⟩
            go_wp2_with fail
            all_goals exact ret_tmp rfl rfl rfl ⟨_, by first | exact hu | exact u64_rng _, rfl, hst4⟩
    · go_wp2_with fail
      go_loopw [3, 4] (fun v x wx => ∃ (i : Nat) (u : Int), v = .int .i64 i ∧ x = .int .u64 u ∧ (0 ≤ u ∧ u ≤ 18446744073709551615) ∧ i ≤ p ∧ wx = w) (fun v _ _ => p - (intOf v).toNat)
      case atStart => exact ⟨i, u, rfl, rfl, hu, hi, rfl⟩
      case round =>
        clear hip hi hu
        obtain ⟨i, u, rfl, rfl, hu, hi, hwx⟩ := hrel
        have hwx2 := hwx.symm
        subst hwx2
        by_cases hip : (i : Int) < p
        · go_wp2_with fail
          go_round
          case rel => exact ⟨i + 1, _, rfl, rfl, u64_rng _, by omega, by first | rfl | trivial⟩
          case measure => simp [intOf]; omega
        · go_wp2_with fail
          refine hR.out.mono ?_
          rintro e w4 ⟨b, rfl, hst4⟩
          go_wp2_with fail
          all_goals exact ret_tmp rfl rfl rfl ⟨_, by first | exact hu | exact u64_rng _, rfl, hst4⟩
end Go.Proofs.YtpajcfkldnbpfaaGreatDoor
