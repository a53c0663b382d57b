/- rightShift. What the tables of strconv hold. -/
import Derived.Test.YtpajcfkldnbpfaaGreatDoorV31
import Derived.Deep.CutBlock
import Derived.Laws.BitsLemmas
import Derived.Test.YtpajcfkldnbpfaaGreatDoorV26
import Derived.Lib.LaidRTab
import Derived.ChangeSame
import Derived.Deep.Strs
import Derived.OpenShut
set_option linter.unusedSimpArgs false
set_option linter.unusedVariables false
namespace Go.Proofs.YtpajcfkldnbpfaaGreatDoor
open Go.RowKit
def Digs10 (f : Nat → Int) (n : Nat) : Prop := ∀ i, i < n → 48 ≤ f i ∧ f i ≤ 57
def Acc (k i : Nat) (N c0 : Int) : Prop := (i = 0 ∧ N = 0) ∨ (1 ≤ i ∧ (10 : Int) ^ (i - 1) ≤ N ∧ N < 10 ^ i ∧ N < 10 * 2 ^ k ∧ (2 ≤ i → (10 : Int) ^ (i - 2) < 2 ^ k) ∧ (i = 1 → N = c0 - 48))
theorem Acc.nonneg {k i : Nat} {N c0 : Int} (h : Acc k i N c0) : 0 ≤ N := by
  rcases h with ⟨_, rfl⟩ | ⟨_, h, _⟩
  · exact Int.le_refl _
  · have : (0 : Int) < 10 ^ (i - 1) := Int.pow_pos (by omega)
    omega
theorem Acc.pos {k i : Nat} {N c0 : Int} (h : Acc k i N c0) (hi : 1 ≤ i) : 1 ≤ N := by
  rcases h with ⟨h, rfl⟩ | ⟨_, h, _⟩
  · omega
  · have : (0 : Int) < 10 ^ (i - 1) := Int.pow_pos (by omega)
    omega
theorem Acc.step {k i : Nat} {N c0 c : Int} (h : Acc k i N c0) (hN : N < 2 ^ k) (hc : 48 ≤ c ∧ c ≤ 57) (h0 : i = 0 → c = c0 ∧ c0 ≠ 48) : Acc k (i + 1) (N * 10 + c - 48) c0 := by
  right
  rcases h with ⟨rfl, rfl⟩ | ⟨h1, h2, h3, h4, h5, h6⟩
  · obtain ⟨rfl, h⟩ := h0 rfl
    have : (1 : Int) ≤ 2 ^ k := Int.pow_pos (by omega)
    simp
    omega
  · have e1 : (10 : Int) ^ (i + 1 - 1) = 10 ^ (i - 1) * 10 := by rw [← Int.pow_succ]; congr 1; omega
    have e2 : (10 : Int) ^ (i + 1) = 10 ^ i * 10 := Int.pow_succ ..
    refine ⟨by omega, by rw [e1]; omega, by rw [e2]; omega, by omega, fun _ => ?_, by omega⟩
    rw [show i + 1 - 2 = i - 1 by omega]
    omega
theorem Acc.grow {k i : Nat} {N c0 : Int} (h : Acc k i N c0) (hN : N < 2 ^ k) (hi : 1 ≤ i) : Acc k (i + 1) (N * 10) c0 := by
  have := h.step (c := 48) hN (by omega) (by omega)
  simpa using this
theorem Acc.bound {k i : Nat} {N c0 : Int} (h : Acc k i N c0) (hk : k ≤ 27) : i ≤ 12 ∧ N < 1342177280 := by
  have hK : (2 : Int) ^ k ≤ 2 ^ 27 := by exact_mod_cast Nat.pow_le_pow_right (by omega) hk
  have e27 : (2 : Int) ^ 27 = 134217728 := by decide
  rcases h with ⟨rfl, rfl⟩ | ⟨h1, h2, h3, h4, h5, h6⟩
  · omega
  · refine ⟨?_, by omega⟩
    rcases Nat.lt_or_ge i 13 with h | h
    · omega
    · exfalso
      have : (10 : Int) ^ 12 ≤ 10 ^ (i - 1) := by exact_mod_cast Nat.pow_le_pow_right (by omega) (by omega)
      have e : (10 : Int) ^ 12 = 1000000000000 := by decide
      omega
theorem div0_lt {N K : Int} (hK : 0 < K) (h : N / K = 0) : N < K := by
  apply Int.not_le.1
  intro h2
  have := Int.le_ediv_of_mul_le hK (a := 1) (b := N) (by omega)
  omega
theorem div_ne {N K : Int} (h0 : 0 ≤ N) (h : ¬ N / K = 0) : K ≤ N := Int.not_lt.1 fun h2 => h (Int.ediv_eq_zero_of_lt h0 h2)
theorem two_le {k : Nat} (h : k ≤ 27) : (2 : Int) ^ k ≤ 134217728 := by
  have : (2 : Int) ^ k ≤ 2 ^ 27 := by exact_mod_cast Nat.pow_le_pow_right (by omega) h
  exact this
def Run2 (k j : Nat) (N N0 : Int) (f f' : Nat → Int) : Prop := (0 ≤ N ∧ N < 10 * 2 ^ k) ∧ Digs10 f' j ∧ (∀ i, j ≤ i → f' i = f i) ∧ (j = 0 → N = N0) ∧ (0 < j → f' 0 = N0 / 2 ^ k + 48)
theorem Run2.start {k i : Nat} {N c0 : Int} {f : Nat → Int} (h : Acc k i N c0) (h2 : (2 : Int) ^ k ≤ N) : Run2 k 0 N N f f := by
  have hK : (0 : Int) < 2 ^ k := Int.pow_pos (by omega)
  refine ⟨⟨h.nonneg, ?_⟩, fun i h => absurd h (by omega), fun _ _ => rfl, fun _ => rfl, fun h => absurd h (by omega)⟩
  rcases h with ⟨rfl, rfl⟩ | ⟨h1, h2, h3, h4, h5, h6⟩
  · omega
  · exact h4
theorem andm (k : Nat) (N : Int) (hk : k ≤ 60) (h0 : 0 ≤ N) (h1 : N < 9223372036854775808) : bits .and .u64 N (2 ^ k - 1) = N % 2 ^ k :=
  bits_mask .u64 63 (by decide) (fun n h0 h1 => IntWalk.u64_in n ⟨h0, by have e : (2 : Int) ^ 63 = 9223372036854775808 := by decide
                                                                         omega⟩) k (by omega) N h0 (by have e : (2 : Int) ^ 63 = 9223372036854775808 := by decide
                                                                                                       omega)
theorem dig9 {N K : Int} (h0 : 0 ≤ N) (hK : 0 < K) (h1 : N < 10 * K) : 0 ≤ N / K ∧ N / K ≤ 9 := by
  refine ⟨Int.ediv_nonneg h0 (by omega), ?_⟩
  have := Int.ediv_lt_of_lt_mul hK (a := N) (b := 10) h1
  omega
theorem Run2.dig {k j : Nat} {N N0 : Int} {f f' : Nat → Int} (h : Run2 k j N N0 f f') : 0 ≤ N / 2 ^ k ∧ N / 2 ^ k ≤ 9 := dig9 h.1.1 (Int.pow_pos (by omega)) h.1.2
theorem Digs10.upd {f : Nat → Int} {j : Nat} {v : Int} (h : Digs10 f j) (hv : 48 ≤ v ∧ v ≤ 57) : Digs10 (upd f j v) (j + 1) := by
  intro i hi
  unfold YtpajcfkldnbpfaaGreatDoor.upd
  split
  · exact hv
  · exact h i (by omega)
theorem Run2.step {k j : Nat} {N N0 c : Int} {f f' : Nat → Int} (h : Run2 k j N N0 f f') (hc : 48 ≤ c ∧ c ≤ 57) : Run2 k (j + 1) (N % 2 ^ k * 10 + c - 48) N0 f (upd f' j (N / 2 ^ k + 48)) := by
  have hK : (0 : Int) < 2 ^ k := Int.pow_pos (by omega)
  have hmod : 0 ≤ N % 2 ^ k ∧ N % 2 ^ k < 2 ^ k := ⟨Int.emod_nonneg _ (by omega), Int.emod_lt_of_pos _ hK⟩
  have hd := h.dig
  refine ⟨by omega, h.2.1.upd (by omega), fun i hi => ?_, fun e => absurd e (by omega), fun _ => ?_⟩
  · rw [← h.2.2.1 i (by omega)]
    exact if_neg (by omega)
  · by_cases hj : j = 0
    · subst hj
      rw [← h.2.2.2.1 rfl]
      exact if_pos rfl
    · rw [← h.2.2.2.2 (by omega)]
      exact if_neg (by omega)
def Run3 (k j l : Nat) (N N0 : Int) (f' : Nat → Int) : Prop := (0 ≤ N ∧ N < 10 * 2 ^ k) ∧ l ≤ k + 1 ∧ (l ≤ k → (2 : Int) ^ l ∣ N) ∧ (l = k + 1 → N = 0) ∧ Digs10 f' (j + l) ∧ (j + l = 0 → N = N0 ∧ 2 ^ k ≤ N0) ∧ (0 < j + l → f' 0 = N0 / 2 ^ k + 48)
theorem Run2.start3 {k j : Nat} {N N0 : Int} {f f' : Nat → Int} (h : Run2 k j N N0 f f') (h2 : (2 : Int) ^ k ≤ N0) : Run3 k j 0 N N0 f' := ⟨h.1, by omega, fun _ => ⟨N, by simp⟩, fun e => absurd e (by omega), h.2.1, fun e => ⟨h.2.2.2.1 e, h2⟩, h.2.2.2.2⟩
theorem Run3.dig {k j l : Nat} {N N0 : Int} {f' : Nat → Int} (h : Run3 k j l N N0 f') : 0 ≤ N / 2 ^ k ∧ N / 2 ^ k ≤ 9 := dig9 h.1.1 (Int.pow_pos (by omega)) h.1.2
theorem Run3.more {k j l : Nat} {N N0 : Int} {f' : Nat → Int} (h : Run3 k j l N N0 f') (hN : 0 < N) : l ≤ k := by
  have h1 := h.2.1
  rcases Nat.lt_or_ge k l with h2 | h2
  · have := h.2.2.2.1 (by omega)
    omega
  · exact h2
theorem Run3.fin {k j l : Nat} {N N0 : Int} {f' : Nat → Int} (h : Run3 k j l N N0 f') (hN : ¬ 0 < N) : 1 ≤ j + l := by
  have hK : (0 : Int) < 2 ^ k := Int.pow_pos (by omega)
  apply Nat.pos_of_ne_zero
  intro e
  obtain ⟨rfl, h2⟩ := h.2.2.2.2.2.1 e
  omega
theorem Int.dvd_emod_sub_self' {N a K : Int} (h1 : a ∣ K) (h2 : a ∣ N) : a ∣ N % K := by
  rw [Int.emod_def]
  exact Int.dvd_sub h2 (Int.dvd_trans h1 ⟨_, rfl⟩)
theorem Run3.step {k j l : Nat} {N N0 : Int} {f' : Nat → Int} (h : Run3 k j l N N0 f') (hl : l ≤ k) : Run3 k j (l + 1) (N % 2 ^ k * 10) N0 (upd f' (j + l) (N / 2 ^ k + 48)) := by
  have hK : (0 : Int) < 2 ^ k := Int.pow_pos (by omega)
  have hmod : 0 ≤ N % 2 ^ k ∧ N % 2 ^ k < 2 ^ k := ⟨Int.emod_nonneg _ (by omega), Int.emod_lt_of_pos _ hK⟩
  have hd := h.dig
  have h2 := h.2.2.1 hl
  refine ⟨by omega, by omega, fun h3 => ?_, fun h3 => ?_, h.2.2.2.2.1.upd (by omega), fun e => absurd e (by omega), fun _ => ?_⟩
  · have h4 : (2 : Int) ^ l ∣ N % 2 ^ k := (Int.dvd_emod_sub_self' (N := N) (by exact ⟨2 ^ (k - l), by rw [← Int.pow_add]; congr 1; omega⟩) h2)
    rw [Int.pow_succ]
    exact Int.mul_dvd_mul h4 ⟨5, rfl⟩
  · have e : l = k := by omega
    subst e
    rw [Int.emod_eq_zero_of_dvd h2]
    rfl
  · by_cases hj : j + l = 0
    · obtain ⟨rfl, _⟩ := h.2.2.2.2.2.1 hj
      exact if_pos hj.symm
    · rw [← h.2.2.2.2.2.2 (by omega)]
      exact if_neg (by omega)
theorem Acc.post {k i : Nat} {N c0 : Int} (h : Acc k i N c0) (h2 : (2 : Int) ^ k ≤ N) : 1 ≤ i ∧ (2 : Int) ^ k < 10 ^ i ∧ (2 ≤ i → (10 : Int) ^ (i - 2) < 2 ^ k) ∧ (i = 1 → N = c0 - 48) := by
  have hK : (0 : Int) < 2 ^ k := Int.pow_pos (by omega)
  rcases h with ⟨rfl, rfl⟩ | ⟨h1, h3, h4, h5, h6, h7⟩
  · omega
  · exact ⟨h1, by omega, h6, h7⟩
def RshR (w0 : World) (d k : Nat) (f : Nat → Int) (n : Nat) (dp : Int) (ng : Bool) (e : Ending) (w' : World) : Prop := ∃ (r m : Nat) (f' : Nat → Int) (tr : Bool), 1 ≤ r ∧ r ≤ 12 ∧ (2 : Int) ^ k < 10 ^ r ∧ (2 ≤ r → (10 : Int) ^ (r - 2) < 2 ^ k) ∧ 1 ≤ m ∧ m ≤ k + 1 + (n - r) ∧ Digs10 f' m ∧ f' 0 ≠ 48 ∧ (r = 1 → f' 0 = (f 0 - 48) / 2 ^ k + 48) ∧ e = .returned (.tuple #[]) ∧ DS w0 d w' f' m (dp + 1 - r) ng tr
set_option maxRecDepth 100000 in
theorem rsh_any (w0 : World) (d : Nat) (f : Nat → Int) (n k : Nat) (dp : Int) (ng tr : Bool) (w : World) (hS : DS w0 d w f n dp ng tr) (h1 : 1 ≤ n) (h8 : n ≤ 700) (hd : Digs10 f n) (hf : f 0 ≠ 48) (hk : 1 ≤ k) (hk2 : k ≤ 27) (hdp : -1000 ≤ dp ∧ dp ≤ 1000) : Calls Tryz.prog 177 #[.pointer (some ⟨d, 0, none⟩), .int .u64 k] w (RshR w0 d k f n dp ng) := by
  have HD := Lib.hid (And.intro hd hf)
  clear hd hf
  have HS := Lib.hid hS
  clear hS
  go_enter Tryz.func177, Tryz.ntmps177
  go_upto_block 0 with fail
  go_cut [4, 6] (fun r v wx => ∃ (i : Nat) (N : Int), r = .int .i64 i ∧ v = .int .u64 N ∧ Hid (DS w0 d wx f n dp ng tr) ∧ Hid (Acc k i N (f 0) ∧ (2 : Int) ^ k ≤ N))
  case first =>
    go_wp2_with fail
    go_loopw [4, 6] (fun r v wx => ∃ (i : Nat) (N : Int), r = .int .i64 i ∧ v = .int .u64 N ∧ Hid (DS w0 d wx f n dp ng tr) ∧ Hid (Acc k i N (f 0))) (fun r _ _ => 40 - (intOf r).toNat)
    case atStart => exact ⟨0, 0, rfl, rfl, HS, Lib.hid (.inl ⟨rfl, rfl⟩)⟩
    case round =>
      obtain ⟨i, N, rfl, rfl, HL, HA⟩ := hrel
      have hst := HL.out
      have al := al272
      have h0 := HA.out.nonneg
      obtain ⟨hb1, hb2⟩ := HA.out.bound hk2
      have hK : (0 : Int) < 2 ^ k := Int.pow_pos (by omega)
      by_cases hz : N / 2 ^ k = 0
      · have hN : N < 2 ^ k := div0_lt hK hz
        by_cases hin : n ≤ i
        · have h3 := HA.out.pos (by omega)
          have hn0 : ¬ N = 0 := by omega
          have hni : (n : Int) ≤ i := by omega
          go_wp2_with ((first | ((with_reducible refine at_load ?_); first | refine dl_ld hst rfl rfl rfl (one_of (by decide +kernel)) (dec_nd _ _ _ _ _) ?_ | refine dl_ld hst rfl rfl rfl (one_of (by decide +kernel)) (dec_dp _ _ _ _ _) ?_ | refine dl_ld hst rfl rfl rfl (one_of (by decide +kernel)) (dec_ng _ _ _ _ _) ?_ | refine dl_ld hst rfl rfl rfl (one_of (by decide +kernel)) (dec_tr _ _ _ _ _) ?_ | refine dl_ld hst rfl rfl rfl (one_of (by decide +kernel)) (dec_d _ _ _ _ _ (by omega)) ?_) | ((with_reducible refine at_store ?_); (first | refine dl_st hst rfl rfl rfl (rfl : _ = Value.int _ _) rfl (sz1_of (by decide +kernel)) (by decide) (dset_nd _ _ _ _ _ _) ?_ | refine dl_st hst rfl rfl rfl (rfl : _ = Value.int _ _) rfl (sz1_of (by decide +kernel)) (by decide) (dset_dp _ _ _ _ _ _) ?_ | refine dl_st hst rfl rfl rfl (rfl : _ = Value.bool _) rfl (sz1_of (by decide +kernel)) (by decide) (dset_tr _ _ _ _ _ _) ?_ | refine dl_st hst rfl rfl rfl (rfl : _ = Value.bool _) rfl (sz1_of (by decide +kernel)) (by decide) (dset_ng _ _ _ _ _ _) ?_ | refine dl_st hst rfl rfl rfl (rfl : _ = Value.int _ _) rfl (sz1_of (by decide +kernel)) (by omega) (dset_d _ _ _ _ _ _ (by omega)) ?_); clear hst; intro w hst)))
          go_loopw [4, 6] (fun r v wx => ∃ (i : Nat) (N : Int), r = .int .i64 i ∧ v = .int .u64 N ∧ 1 ≤ i ∧ Hid (DS w0 d wx f n dp ng tr) ∧ Hid (Acc k i N (f 0))) (fun r _ _ => 40 - (intOf r).toNat)
          case atStart => exact ⟨i, N, rfl, rfl, by omega, HL, HA⟩
          case round =>
            clear hst HL HA h0 hb1 hb2 hz hN hin h3 hn0 hni
            obtain ⟨i, N, rfl, rfl, hi1, HL, HA⟩ := hrel
            have h0 := HA.out.nonneg
            obtain ⟨hb1, hb2⟩ := HA.out.bound hk2
            by_cases hz : N / 2 ^ k = 0
            · have hN : N < 2 ^ k := div0_lt hK hz
              have hw1 : IntKind.u64.wrap (N * 10) = N * 10 := IntWalk.u64_in _ (by omega)
              go_wp2_with ((first | ((with_reducible refine at_load ?_); first | refine dl_ld hst rfl rfl rfl (one_of (by decide +kernel)) (dec_nd _ _ _ _ _) ?_ | refine dl_ld hst rfl rfl rfl (one_of (by decide +kernel)) (dec_dp _ _ _ _ _) ?_ | refine dl_ld hst rfl rfl rfl (one_of (by decide +kernel)) (dec_ng _ _ _ _ _) ?_ | refine dl_ld hst rfl rfl rfl (one_of (by decide +kernel)) (dec_tr _ _ _ _ _) ?_ | refine dl_ld hst rfl rfl rfl (one_of (by decide +kernel)) (dec_d _ _ _ _ _ (by omega)) ?_) | ((with_reducible refine at_store ?_); (first | refine dl_st hst rfl rfl rfl (rfl : _ = Value.int _ _) rfl (sz1_of (by decide +kernel)) (by decide) (dset_nd _ _ _ _ _ _) ?_ | refine dl_st hst rfl rfl rfl (rfl : _ = Value.int _ _) rfl (sz1_of (by decide +kernel)) (by decide) (dset_dp _ _ _ _ _ _) ?_ | refine dl_st hst rfl rfl rfl (rfl : _ = Value.bool _) rfl (sz1_of (by decide +kernel)) (by decide) (dset_tr _ _ _ _ _ _) ?_ | refine dl_st hst rfl rfl rfl (rfl : _ = Value.bool _) rfl (sz1_of (by decide +kernel)) (by decide) (dset_ng _ _ _ _ _ _) ?_ | refine dl_st hst rfl rfl rfl (rfl : _ = Value.int _ _) rfl (sz1_of (by decide +kernel)) (by omega) (dset_d _ _ _ _ _ _ (by omega)) ?_); clear hst; intro w hst)))
              go_round
              case rel => exact ⟨i + 1, N * 10, rfl, rfl, by omega, HL, Lib.hid (HA.out.grow hN hi1)⟩
              case measure => simp [intOf]; omega
            · go_wp2_with fail
              go_meet
              case rel => exact ⟨i, N, rfl, rfl, HL, Lib.hid ⟨HA.out, div_ne h0 hz⟩⟩
        · have hni : ¬ (n : Int) ≤ i := by omega
          obtain ⟨hd1, hd2⟩ := HD.out.1 i (by omega)
          have hw1 : IntKind.u64.wrap (N * 10) = N * 10 := IntWalk.u64_in _ (by omega)
          have hw2 : IntKind.u64.wrap (f i) = f i := IntWalk.u64_in _ (by omega)
          have hw3 : IntKind.u64.wrap (N * 10 + f i) = N * 10 + f i := IntWalk.u64_in _ (by omega)
          have hw4 : IntKind.u64.wrap (N * 10 + f i - 48) = N * 10 + f i - 48 := IntWalk.u64_in _ (by omega)
          have hlt : (i : Int) < 800 := by omega
          go_wp2_with ((first | ((with_reducible refine at_load ?_); first | refine dl_ld hst rfl rfl rfl (one_of (by decide +kernel)) (dec_nd _ _ _ _ _) ?_ | refine dl_ld hst rfl rfl rfl (one_of (by decide +kernel)) (dec_dp _ _ _ _ _) ?_ | refine dl_ld hst rfl rfl rfl (one_of (by decide +kernel)) (dec_ng _ _ _ _ _) ?_ | refine dl_ld hst rfl rfl rfl (one_of (by decide +kernel)) (dec_tr _ _ _ _ _) ?_ | refine dl_ld hst rfl rfl rfl (one_of (by decide +kernel)) (dec_d _ _ _ _ _ (by omega)) ?_) | ((with_reducible refine at_store ?_); (first | refine dl_st hst rfl rfl rfl (rfl : _ = Value.int _ _) rfl (sz1_of (by decide +kernel)) (by decide) (dset_nd _ _ _ _ _ _) ?_ | refine dl_st hst rfl rfl rfl (rfl : _ = Value.int _ _) rfl (sz1_of (by decide +kernel)) (by decide) (dset_dp _ _ _ _ _ _) ?_ | refine dl_st hst rfl rfl rfl (rfl : _ = Value.bool _) rfl (sz1_of (by decide +kernel)) (by decide) (dset_tr _ _ _ _ _ _) ?_ | refine dl_st hst rfl rfl rfl (rfl : _ = Value.bool _) rfl (sz1_of (by decide +kernel)) (by decide) (dset_ng _ _ _ _ _ _) ?_ | refine dl_st hst rfl rfl rfl (rfl : _ = Value.int _ _) rfl (sz1_of (by decide +kernel)) (by omega) (dset_d _ _ _ _ _ _ (by omega)) ?_); clear hst; intro w hst)))
          go_round
          case rel => exact ⟨i + 1, N * 10 + f i - 48, rfl, rfl, HL, Lib.hid (HA.out.step hN ⟨hd1, hd2⟩ (fun e => by subst e; exact ⟨rfl, HD.out.2⟩))⟩
          case measure => simp [intOf]; omega
      · go_wp2_with fail
        go_meet
        case rel => exact ⟨i, N, rfl, rfl, HL, Lib.hid ⟨HA.out, div_ne h0 hz⟩⟩
  case rest =>
    obtain ⟨r0, N0, rfl, rfl, HL, HA⟩ := hcut
    have hst := HL.out
    have al := al272
    obtain ⟨hb1, hb2⟩ := HA.out.1.bound hk2
    have h0 := HA.out.1.nonneg
    have hK : (0 : Int) < 2 ^ k := Int.pow_pos (by omega)
    have hK2 := two_le (k := k) (by omega)
    have hw1 : IntKind.u64.wrap ((2 : Int) ^ k) = 2 ^ k := IntWalk.u64_in _ (by omega)
    have hw2 : IntKind.u64.wrap ((2 : Int) ^ k - 1) = 2 ^ k - 1 := IntWalk.u64_in _ (by omega)
    go_upto_block 4 with ((first | ((with_reducible refine at_load ?_); first | refine dl_ld hst rfl rfl rfl (one_of (by decide +kernel)) (dec_nd _ _ _ _ _) ?_ | refine dl_ld hst rfl rfl rfl (one_of (by decide +kernel)) (dec_dp _ _ _ _ _) ?_ | refine dl_ld hst rfl rfl rfl (one_of (by decide +kernel)) (dec_ng _ _ _ _ _) ?_ | refine dl_ld hst rfl rfl rfl (one_of (by decide +kernel)) (dec_tr _ _ _ _ _) ?_ | refine dl_ld hst rfl rfl rfl (one_of (by decide +kernel)) (dec_d _ _ _ _ _ (by omega)) ?_) | ((with_reducible refine at_store ?_); (first | refine dl_st hst rfl rfl rfl (rfl : _ = Value.int _ _) rfl (sz1_of (by decide +kernel)) (by decide) (dset_nd _ _ _ _ _ _) ?_ | refine dl_st hst rfl rfl rfl (rfl : _ = Value.int _ _) rfl (sz1_of (by decide +kernel)) (by decide) (dset_dp _ _ _ _ _ _) ?_ | refine dl_st hst rfl rfl rfl (rfl : _ = Value.bool _) rfl (sz1_of (by decide +kernel)) (by decide) (dset_tr _ _ _ _ _ _) ?_ | refine dl_st hst rfl rfl rfl (rfl : _ = Value.bool _) rfl (sz1_of (by decide +kernel)) (by decide) (dset_ng _ _ _ _ _ _) ?_ | refine dl_st hst rfl rfl rfl (rfl : _ = Value.int _ _) rfl (sz1_of (by decide +kernel)) (by omega) (dset_d _ _ _ _ _ _ (by omega)) ?_); clear hst; intro w hst)))
    have HX := Lib.hid hst
    clear hst HL h0 hw1 hw2 hb2
    go_wp2_with fail
    go_loopw [4, 5, 6] (fun r v x wx => ∃ (j : Nat) (f' : Nat → Int) (N : Int), r = .int .i64 ((r0 + j : Nat) : Int) ∧ v = .int .i64 j ∧ x = .int .u64 N ∧ (j = 0 ∨ r0 + j ≤ n) ∧ Hid (DS w0 d wx f' n (dp - ((r0 : Int) - 1)) ng tr) ∧ Hid (Run2 k j N N0 f f')) (fun r _ _ _ => 1000 - (intOf r).toNat)
    case atStart => exact ⟨0, f, N0, rfl, rfl, rfl, .inl rfl, HX, Lib.hid (Run2.start HA.out.1 HA.out.2)⟩
    case round =>
      obtain ⟨j, f', N, rfl, rfl, rfl, hj, HL, HR⟩ := hrel
      have hst := HL.out
      by_cases hjn : ((r0 + j : Nat) : Int) < n
      · have hj8 : j < 700 := by omega
        obtain ⟨hd1, hd2⟩ := HD.out.1 (r0 + j) (by omega)
        have efj := HR.out.2.2.1 (r0 + j) (by omega)
        have hlt : ((r0 + j : Nat) : Int) < 800 := by omega
        have hge : (0 : Int) ≤ ((r0 + j : Nat) : Int) := by omega
        have hq := HR.out.dig
        have h0 := HR.out.1.1
        have hK3 := HR.out.1.2
        have hand := andm k N (by omega) h0 (by omega)
        have hmod : 0 ≤ N % 2 ^ k ∧ N % 2 ^ k < 2 ^ k := ⟨Int.emod_nonneg _ (by omega), Int.emod_lt_of_pos _ hK⟩
        have hw5 : IntKind.u64.wrap (f (r0 + j)) = f (r0 + j) := IntWalk.u64_in _ (by omega)
        have hw6 : IntKind.u64.wrap (N / 2 ^ k + 48) = N / 2 ^ k + 48 := IntWalk.u64_in _ (by omega)
        have hw7 : IntKind.u8.wrap (N / 2 ^ k + 48) = N / 2 ^ k + 48 := IntWalk.u8_in _ (by omega)
        have hw8 : IntKind.u64.wrap (N % 2 ^ k * 10) = N % 2 ^ k * 10 := IntWalk.u64_in _ (by omega)
        have hw9 : IntKind.u64.wrap (N % 2 ^ k * 10 + f (r0 + j)) = N % 2 ^ k * 10 + f (r0 + j) := IntWalk.u64_in _ (by omega)
        have hw10 : IntKind.u64.wrap (N % 2 ^ k * 10 + f (r0 + j) - 48) = N % 2 ^ k * 10 + f (r0 + j) - 48 := IntWalk.u64_in _ (by omega)
        go_wp2_with ((first | ((with_reducible refine at_load ?_); first | refine dl_ld hst rfl rfl rfl (one_of (by decide +kernel)) (dec_nd _ _ _ _ _) ?_ | refine dl_ld hst rfl rfl rfl (one_of (by decide +kernel)) (dec_dp _ _ _ _ _) ?_ | refine dl_ld hst rfl rfl rfl (one_of (by decide +kernel)) (dec_ng _ _ _ _ _) ?_ | refine dl_ld hst rfl rfl rfl (one_of (by decide +kernel)) (dec_tr _ _ _ _ _) ?_ | refine dl_ld hst rfl rfl rfl (one_of (by decide +kernel)) (dec_d _ _ _ _ _ (by omega)) ?_) | ((with_reducible refine at_store ?_); (first | refine dl_st hst rfl rfl rfl (rfl : _ = Value.int _ _) rfl (sz1_of (by decide +kernel)) (by decide) (dset_nd _ _ _ _ _ _) ?_ | refine dl_st hst rfl rfl rfl (rfl : _ = Value.int _ _) rfl (sz1_of (by decide +kernel)) (by decide) (dset_dp _ _ _ _ _ _) ?_ | refine dl_st hst rfl rfl rfl (rfl : _ = Value.bool _) rfl (sz1_of (by decide +kernel)) (by decide) (dset_tr _ _ _ _ _ _) ?_ | refine dl_st hst rfl rfl rfl (rfl : _ = Value.bool _) rfl (sz1_of (by decide +kernel)) (by decide) (dset_ng _ _ _ _ _ _) ?_ | refine dl_st hst rfl rfl rfl (rfl : _ = Value.int _ _) rfl (sz1_of (by decide +kernel)) (by omega) (dset_d _ _ _ _ _ _ (by omega)) ?_); clear hst; intro w hst)))
        go_round
        case rel => exact ⟨j + 1, upd f' j (N / 2 ^ k + 48), N % 2 ^ k * 10 + f (r0 + j) - 48, (by rw [← Nat.add_assoc]; push_cast; rfl), (by push_cast; rfl), rfl, .inr (by omega), Lib.hid hst, Lib.hid (HR.out.step ⟨hd1, hd2⟩)⟩
        case measure => simp [intOf]; omega
      · clear hst
        have hlt : ¬ ((r0 + j : Nat) : Int) < n := hjn
        have hst := HL.out
        have hjj : j ≤ n - r0 := by omega
        have hj8 : j ≤ 700 := by omega
        have HR2 := Lib.hid (HR.out.start3 HA.out.2)
        go_wp2_with ((first | ((with_reducible refine at_load ?_); first | refine dl_ld hst rfl rfl rfl (one_of (by decide +kernel)) (dec_nd _ _ _ _ _) ?_ | refine dl_ld hst rfl rfl rfl (one_of (by decide +kernel)) (dec_dp _ _ _ _ _) ?_ | refine dl_ld hst rfl rfl rfl (one_of (by decide +kernel)) (dec_ng _ _ _ _ _) ?_ | refine dl_ld hst rfl rfl rfl (one_of (by decide +kernel)) (dec_tr _ _ _ _ _) ?_ | refine dl_ld hst rfl rfl rfl (one_of (by decide +kernel)) (dec_d _ _ _ _ _ (by omega)) ?_) | ((with_reducible refine at_store ?_); (first | refine dl_st hst rfl rfl rfl (rfl : _ = Value.int _ _) rfl (sz1_of (by decide +kernel)) (by decide) (dset_nd _ _ _ _ _ _) ?_ | refine dl_st hst rfl rfl rfl (rfl : _ = Value.int _ _) rfl (sz1_of (by decide +kernel)) (by decide) (dset_dp _ _ _ _ _ _) ?_ | refine dl_st hst rfl rfl rfl (rfl : _ = Value.bool _) rfl (sz1_of (by decide +kernel)) (by decide) (dset_tr _ _ _ _ _ _) ?_ | refine dl_st hst rfl rfl rfl (rfl : _ = Value.bool _) rfl (sz1_of (by decide +kernel)) (by decide) (dset_ng _ _ _ _ _ _) ?_ | refine dl_st hst rfl rfl rfl (rfl : _ = Value.int _ _) rfl (sz1_of (by decide +kernel)) (by omega) (dset_d _ _ _ _ _ _ (by omega)) ?_); clear hst; intro w hst)))
        go_loopw [5, 6] (fun v x wx => ∃ (l : Nat) (f' : Nat → Int) (N : Int), v = .int .i64 ((j + l : Nat) : Int) ∧ x = .int .u64 N ∧ Hid (DS w0 d wx f' n (dp - ((r0 : Int) - 1)) ng tr) ∧ Hid (Run3 k j l N N0 f'))  (fun v _ _ => 1000 - (intOf v).toNat)
        case atStart => exact ⟨0, f', N, rfl, rfl, HL, HR2⟩
        case round =>
          clear HR HR2 hst HL
          obtain ⟨l, f2, N, rfl, rfl, HL, HR⟩ := hrel
          have hst := HL.out
          have h0 := HR.out.1.1
          have hK3 := HR.out.1.2
          have hl := HR.out.2.1
          by_cases hN : 0 < N
          · have hl2 := HR.out.more hN
            have hq := HR.out.dig
            have hand := andm k N (by omega) h0 (by omega)
            have hmod : 0 ≤ N % 2 ^ k ∧ N % 2 ^ k < 2 ^ k := ⟨Int.emod_nonneg _ (by omega), Int.emod_lt_of_pos _ hK⟩
            have hw6 : IntKind.u64.wrap (N / 2 ^ k + 48) = N / 2 ^ k + 48 := IntWalk.u64_in _ (by omega)
            have hw7 : IntKind.u8.wrap (N / 2 ^ k + 48) = N / 2 ^ k + 48 := IntWalk.u8_in _ (by omega)
            have hw8 : IntKind.u64.wrap (N % 2 ^ k * 10) = N % 2 ^ k * 10 := IntWalk.u64_in _ (by omega)
            have hlt : ((j + l : Nat) : Int) < 800 := by omega
            have hge : (0 : Int) ≤ ((j + l : Nat) : Int) := by omega
            go_wp2_with ((first | ((with_reducible refine at_load ?_); first | refine dl_ld hst rfl rfl rfl (one_of (by decide +kernel)) (dec_nd _ _ _ _ _) ?_ | refine dl_ld hst rfl rfl rfl (one_of (by decide +kernel)) (dec_dp _ _ _ _ _) ?_ | refine dl_ld hst rfl rfl rfl (one_of (by decide +kernel)) (dec_ng _ _ _ _ _) ?_ | refine dl_ld hst rfl rfl rfl (one_of (by decide +kernel)) (dec_tr _ _ _ _ _) ?_ | refine dl_ld hst rfl rfl rfl (one_of (by decide +kernel)) (dec_d _ _ _ _ _ (by omega)) ?_) | ((with_reducible refine at_store ?_); (first | refine dl_st hst rfl rfl rfl (rfl : _ = Value.int _ _) rfl (sz1_of (by decide +kernel)) (by decide) (dset_nd _ _ _ _ _ _) ?_ | refine dl_st hst rfl rfl rfl (rfl : _ = Value.int _ _) rfl (sz1_of (by decide +kernel)) (by decide) (dset_dp _ _ _ _ _ _) ?_ | refine dl_st hst rfl rfl rfl (rfl : _ = Value.bool _) rfl (sz1_of (by decide +kernel)) (by decide) (dset_tr _ _ _ _ _ _) ?_ | refine dl_st hst rfl rfl rfl (rfl : _ = Value.bool _) rfl (sz1_of (by decide +kernel)) (by decide) (dset_ng _ _ _ _ _ _) ?_ | refine dl_st hst rfl rfl rfl (rfl : _ = Value.int _ _) rfl (sz1_of (by decide +kernel)) (by omega) (dset_d _ _ _ _ _ _ (by omega)) ?_); clear hst; intro w hst)))
            go_round
            case rel => exact ⟨l + 1, upd f2 (j + l) (N / 2 ^ k + 48), N % 2 ^ k * 10, (by rw [← Nat.add_assoc]; push_cast; rfl), rfl, Lib.hid hst, Lib.hid (HR.out.step hl2)⟩
            case measure => simp [intOf]; omega
          · have h8 := HR.out.fin hN
            go_wp2_with ((first | ((with_reducible refine at_load ?_); first | refine dl_ld hst rfl rfl rfl (one_of (by decide +kernel)) (dec_nd _ _ _ _ _) ?_ | refine dl_ld hst rfl rfl rfl (one_of (by decide +kernel)) (dec_dp _ _ _ _ _) ?_ | refine dl_ld hst rfl rfl rfl (one_of (by decide +kernel)) (dec_ng _ _ _ _ _) ?_ | refine dl_ld hst rfl rfl rfl (one_of (by decide +kernel)) (dec_tr _ _ _ _ _) ?_ | refine dl_ld hst rfl rfl rfl (one_of (by decide +kernel)) (dec_d _ _ _ _ _ (by omega)) ?_) | ((with_reducible refine at_store ?_); (first | refine dl_st hst rfl rfl rfl (rfl : _ = Value.int _ _) rfl (sz1_of (by decide +kernel)) (by decide) (dset_nd _ _ _ _ _ _) ?_ | refine dl_st hst rfl rfl rfl (rfl : _ = Value.int _ _) rfl (sz1_of (by decide +kernel)) (by decide) (dset_dp _ _ _ _ _ _) ?_ | refine dl_st hst rfl rfl rfl (rfl : _ = Value.bool _) rfl (sz1_of (by decide +kernel)) (by decide) (dset_tr _ _ _ _ _ _) ?_ | refine dl_st hst rfl rfl rfl (rfl : _ = Value.bool _) rfl (sz1_of (by decide +kernel)) (by decide) (dset_ng _ _ _ _ _ _) ?_ | refine dl_st hst rfl rfl rfl (rfl : _ = Value.int _ _) rfl (sz1_of (by decide +kernel)) (by omega) (dset_d _ _ _ _ _ _ (by omega)) ?_); clear hst; intro w hst)))
            have hst2 : DS w0 d w f2 ((j + l : Nat) : Int) (dp - ((r0 : Int) - 1)) ng tr := by push_cast; exact hst
            have hd5 := HR.out.2.2.2.2.1
            have hf0 := HR.out.2.2.2.2.2.2 (by omega)
            have hq0 := (Run2.start (f := f) HA.out.1 HA.out.2).dig
            have hq1 : 1 ≤ N0 / 2 ^ k := by have := Int.le_ediv_of_mul_le hK (a := 1) (b := N0) (by have := HA.out.2; omega); exact this
            refine (trim_any w0 d f2 (j + l) _ ng tr _ hst2 h8 (by omega) (by omega)).mono ?_
            rintro e w4 ⟨m, hm1, hm2, rfl, hst4⟩
            clear hst hst2
            go_wp2_with fail
            obtain ⟨hr1, hr2, hr3, hr4⟩ := HA.out.1.post HA.out.2
            exact ret_none rfl rfl ⟨r0, m, f2, tr, hr1, hb1, hr2, hr3, hm1, by omega, fun i hi => hd5 i (by omega), by omega, fun e => by rw [hf0, hr4 e], rfl, by rw [show dp + 1 - (r0 : Int) = dp - ((r0 : Int) - 1) by omega]; exact hst4⟩
end Go.Proofs.YtpajcfkldnbpfaaGreatDoor
namespace Go.Proofs.YtpajcfkldnbpfaaGreatDoor
open Go.RowKit Go.Lib
theorem below_cell {W0 w : World} (hb : Below W0.heap.size W0 w) {p : Addr} {v : Value} (h : W0.cell? p = some v) : w.cell? p = some v := by
  rw [hb.cell ?_]
  · exact h
  · unfold World.cell? at h
    split at h
    · rename_i h1
      exact lt_of_heap h1
    · cases h
section
variable {P : Program} {w : World} {fuel : Nat} {t e : TypeId} {cs : List Value} {D S : List (DataW Unit)} {p : List MemPlace}
theorem slice_tab {c1 : Nat} (ht : P.underlying t = some (.slice e)) (hD : 0 < D.length) (hce : P.cellsOf e = c1) (hc1 : 0 < c1) (h : DataW.trod (fun _ => ()) P w 0 (fun _ => true) false fuel t cs = some (.slice D S, p)) :
    ∃ (R o c : Nat), cs = [.slice (some ⟨R, o, none⟩) D.length c] ∧ ∀ i d, D[i]? = some d → ∃ vs n q, DataW.trod (fun _ => ()) P w 0 (fun _ => true) false n e vs = some (d, q) ∧ vs.length = c1 ∧ ∀ j, j < c1 → w.cell? ⟨R, o + i * c1 + j, none⟩ = vs[j]? := by
  subst hce
  have hc := hc1
  rcases DataW.trod_slice ht h with ⟨hcs, hx'⟩ | ⟨a', len, cap, el, rs, m, rfl, hc0, hx', _, hlc, _, hel, helem, hsp, _⟩
  · cases hx'
  · have eE : D = el.map (·.1) := by
      have := congrArg Prod.fst hx'
      simp only [DataW.slice.injEq] at this
      exact this.1
    have hlen : len = D.length := by rw [eE, List.length_map, hel]
    subst hlen
    have key : ∀ i d, D[i]? = some d → ∃ vs q, DataW.trod (fun _ => ()) P w 0 (fun _ => true) false m e vs = some (d, q) ∧ vs.length = P.cellsOf e ∧ ∀ j, j < P.cellsOf e → w.cell? ((a'.add (i * P.cellsOf e)).add j) = vs[j]? := by
      intro i d hd
      have hi : i < D.length := (List.getElem?_eq_some_iff.1 hd).1
      have h1 := helem i hi
      rw [eE, List.getElem?_map] at hd
      obtain ⟨b, hb, rfl⟩ := Option.map_eq_some_iff.1 hd
      rw [hb] at h1
      obtain ⟨ce, hce, hte⟩ := Option.bind_eq_some_iff.1 h1
      obtain ⟨_, hl, hcc⟩ := World.cells?_some hce
      exact ⟨ce, b.2, hte, hl, hcc⟩
    obtain ⟨R, o, sR⟩ := a'
    obtain rfl : sR = none := by
      obtain ⟨vs, q, _, hl, hcc⟩ := key 0 D[0] (List.getElem?_eq_getElem hD)
      have h00 := hcc 0 hc
      have e1 : (Addr.add (Addr.add ⟨R, o, sR⟩ (0 * P.cellsOf e)) 0) = ⟨R, o, sR⟩ := by simp [Addr.add]
      rw [e1, List.getElem?_eq_getElem (by omega)] at h00
      exact cell_spot h00
    refine ⟨R, o, cap, hc0, fun i d hd => ?_⟩
    obtain ⟨vs, q, h1, h2, h3⟩ := key i d hd
    refine ⟨vs, m, q, h1, h2, fun j hj => ?_⟩
    rw [← h3 j hj, Addr.add_lit, Addr.add_lit]
theorem trod_float {k : FloatKind} (ht : P.underlying t = some (.float k)) {x : DataW Unit × List MemPlace} (h : DataW.trod (fun _ => ()) P w 0 (fun _ => true) false fuel t cs = some x) : ∃ n, cs = [.float k n] := by
  cases fuel with
  | zero => simp [DataW.trod] at h
  | succ n =>
    unfold DataW.trod at h
    rw [ht] at h
    split at h <;> simp_all
theorem laid_head {name : String} {d : DataW Unit} {rest : List (String × DataW Unit)} {g : Nat} (hg : P.globalNamed name = some g) (hty : (P.globals[g]?).map (·.type) = some t) (h : laidMet P ((name, d) :: rest) w) : ∃ cs fuel p, w.var? P name = some cs ∧ DataW.trod (fun _ => ()) P w 0 (fun _ => true) false fuel t cs.toList = some (d, p) := by
  obtain ⟨ps, ⟨g', t', cs, fuel, p, q, hg', ht', hvar, hd, _, _⟩, _⟩ := h
  obtain rfl := Option.some.inj (hg.symm.trans hg')
  obtain rfl := Option.some.inj (hty.symm.trans ht')
  exact ⟨cs, fuel, p, hvar, hd⟩
end
theorem optimize_global : Tryz.prog.globalNamed "internal/strconv.optimize" = some 2 := by kernel_rfl
theorem Tabs.optimize {w : World} (h : Tabs w) : w.cell? ⟨2, 0, none⟩ = some (.bool true) := by
  obtain ⟨W0, h1, h2⟩ := h.laid
  have h3 := h1.tail.tail.tail.tail
  obtain ⟨cs, fuel, p, hv, hd⟩ := laid_head (t := 4) optimize_global (by kernel_rfl) h3
  have hd2 : DataW.trod (fun _ => ()) Tryz.prog W0 0 (fun _ => true) false fuel 4 cs.toList = some (.lit (.bool true), p) := hd
  obtain ⟨b, hc, hx⟩ := DataW.trod_bool (by kernel_rfl) hd2
  have hb : b = true := by
    have := congrArg Prod.fst hx
    simp at this
    exact this
  have := World.var?_cell optimize_global hv 0
  rw [← Array.getElem?_toList, hc, hb] at this
  exact below_cell h2 this
theorem head_cell {W0 w : World} (hb : Below W0.heap.size W0 w) {name : String} {g : Nat} {cs : Array Value} (hg : Tryz.prog.globalNamed name = some g) (hv : W0.var? Tryz.prog name = some cs) {i : Nat} {v : Value} (hc : cs.toList[i]? = some v) : w.cell? ⟨g, i, none⟩ = some v := by
  have := World.var?_cell hg hv i
  rw [← Array.getElem?_toList, hc] at this
  exact below_cell hb this
theorem info_global : Tryz.prog.globalNamed "internal/strconv.float64info" = some 6 := by kernel_rfl
theorem trod_int_lit {P : Program} {w : World} {fuel : Nat} {t : TypeId} {cs : List Value} {k : IntKind} {n : Int} {q : List MemPlace} (ht : P.underlying t = some (.int k)) (h : DataW.trod (fun _ => ()) P w 0 (fun _ => true) false fuel t cs = some (.lit (.int k n), q)) : cs = [.int k n] := by
  obtain ⟨m, hc, hx, _⟩ := DataW.trod_int ht h
  have := congrArg Prod.fst hx
  simp at this
  rw [hc, this]
theorem trod_str_lit {P : Program} {w : World} {fuel : Nat} {t : TypeId} {cs : List Value} {l : List UInt8} {q : List MemPlace} (ht : P.underlying t = some .string) (h : DataW.trod (fun _ => ()) P w 0 (fun _ => true) false fuel t cs = some (.lit (.string l), q)) : cs = [.string ⟨l.toArray⟩] := by
  obtain ⟨m, hc, hx, _⟩ := DataW.trod_string ht h
  have := congrArg Prod.fst hx
  simp at this
  rw [hc, this]
theorem Tabs.info {w : World} (h : Tabs w) : w.cell? ⟨6, 0, none⟩ = some (.int .u64 52) ∧ w.cell? ⟨6, 1, none⟩ = some (.int .u64 11) ∧ w.cell? ⟨6, 2, none⟩ = some (.int .i64 (-1023)) := by
  obtain ⟨W0, h1, h2⟩ := h.laid
  have h3 := h1.tail.tail.tail
  obtain ⟨cs, fuel, p, hv, hd⟩ := laid_head (t := 291) info_global (by kernel_rfl) h3
  have hd2 : DataW.trod (fun _ => ()) Tryz.prog W0 0 (fun _ => true) false fuel 291 cs.toList = some (.agg [.lit (.int .u64 52), .lit (.int .u64 11), .lit (.int .i64 (-1023))], p) := hd
  clear hd
  have hd := hd2
  obtain ⟨xs, n, _, hx, hl, hlen, hf⟩ := DataW.trod_struct (fs := #[⟨ "mantbits", 41, 0, false, "", "internal/strconv", 0⟩, ⟨ "expbits", 41, 1, false, "", "internal/strconv", 8⟩, ⟨ "bias", 3, 2, false, "", "internal/strconv", 16⟩]) (by kernel_rfl) hd
  have hxs : xs.map (·.1) = [.lit (.int .u64 52), .lit (.int .u64 11), .lit (.int .i64 (-1023))] := by
    have := congrArg Prod.fst hx
    simp only [DataW.agg.injEq] at this
    exact this.symm
  obtain ⟨a, b, c, rfl⟩ : ∃ a b c, xs = [a, b, c] := by
    match xs, hlen with
    | [a, b, c], _ => exact ⟨a, b, c, rfl⟩
  simp only [List.map_cons, List.map_nil, List.cons.injEq, and_true] at hxs
  obtain ⟨ea, eb, ec⟩ := hxs
  have hl3 : cs.toList.length = 3 := hl.trans (by kernel_rfl)
  have ha := trod_int_lit (k := .u64) (n := 52) (q := a.2) (by kernel_rfl) ((hf 0 ⟨ "mantbits", 41, 0, false, "", "internal/strconv", 0⟩ rfl).trans (by rw [← ea]; rfl))
  have hb := trod_int_lit (k := .u64) (n := 11) (q := b.2) (by kernel_rfl) ((hf 1 ⟨ "expbits", 41, 1, false, "", "internal/strconv", 8⟩ rfl).trans (by rw [← eb]; rfl))
  have hc := trod_int_lit (k := .i64) (n := -1023) (q := c.2) (by kernel_rfl) ((hf 2 ⟨ "bias", 3, 2, false, "", "internal/strconv", 16⟩ rfl).trans (by rw [← ec]; rfl))
  obtain ⟨u, v, x, e⟩ : ∃ u v x, cs.toList = [u, v, x] := by
    match cs.toList, hl3 with
    | [u, v, x], _ => exact ⟨u, v, x, rfl⟩
  have h41 : Tryz.prog.cellsOf 41 = 1 := by kernel_rfl
  have h03 : Tryz.prog.cellsOf 3 = 1 := by kernel_rfl
  dsimp only at ha hb hc
  simp only [e, h41, h03, List.drop, List.take] at ha hb hc
  have ea2 : [u] = [Value.int .u64 52] := ha
  have eb2 : [v] = [Value.int .u64 11] := hb
  have ec2 : [x] = [Value.int .i64 (-1023)] := hc
  cases ea2; cases eb2; cases ec2
  exact ⟨head_cell h2 info_global hv (by rw [e]; rfl), head_cell h2 info_global hv (by rw [e]; rfl), head_cell h2 info_global hv (by rw [e]; rfl)⟩
theorem powtab_global : Tryz.prog.globalNamed "internal/strconv.powtab" = some 8 := by kernel_rfl
def powL : List Int := [1, 3, 6, 9, 13, 16, 19, 23, 26]
theorem Tabs.powtab {w : World} (h : Tabs w) : ∃ R o c, w.cell? ⟨8, 0, none⟩ = some (.slice (some ⟨R, o, none⟩) 9 c) ∧ ∀ i < 9, w.cell? ⟨R, o + i, none⟩ = some (.int .i64 (powL.getD i 0)) := by
  obtain ⟨W0, h1, h2⟩ := h.laid
  have h3 := h1.tail.tail.tail.tail.tail
  obtain ⟨cs, fuel, p, hv, hd⟩ := laid_head (t := 334) powtab_global (by kernel_rfl) h3
  obtain ⟨R, o, c, hc, hel⟩ := slice_tab (e := 3) (c1 := 1) (D := powL.map fun z => .lit (.int .i64 z)) (S := []) (by kernel_rfl) (by decide) (by kernel_rfl) (by decide) (by exact hd)
  refine ⟨R, o, c, head_cell h2 powtab_global hv (by rw [hc]; rfl), fun i hi => ?_⟩
  obtain ⟨vs, n, q, ht, hl, hcc⟩ := hel i (.lit (.int .i64 (powL.getD i 0))) (by
    rw [List.getElem?_map, List.getD_eq_getElem?_getD, List.getElem?_eq_getElem (show i < powL.length from hi)]; rfl)
  rw [trod_int_lit (by kernel_rfl) ht] at hcc
  have := hcc 0 (by decide)
  rw [Nat.mul_one, Nat.add_zero] at this
  exact below_cell h2 this
theorem f10_global : Tryz.prog.globalNamed "internal/strconv.float64pow10" = some 9 := by kernel_rfl
theorem Tabs.f10 {w : World} (h : Tabs w) : ∃ R o c, w.cell? ⟨9, 0, none⟩ = some (.slice (some ⟨R, o, none⟩) 23 c) ∧ ∀ i < 23, ∃ f, w.cell? ⟨R, o + i, none⟩ = some (.float .f64 f) := by
  obtain ⟨W0, h1, h2⟩ := h.laid
  have h3 := h1.tail.tail.tail.tail.tail.tail
  obtain ⟨cs, fuel, p, hv, hd⟩ := laid_head (t := 335) f10_global (by kernel_rfl) h3
  obtain ⟨R, o, c, hc, hel⟩ := slice_tab (e := 73) (c1 := 1) (by kernel_rfl) (Nat.lt_of_lt_of_eq (show 0 < 23 by decide) (by kernel_rfl)) (by kernel_rfl) (by decide) hd
  refine ⟨R, o, c, head_cell h2 f10_global hv (by rw [hc]; rfl), fun i hi => ?_⟩
  obtain ⟨vs, n, q, ht, hl, hcc⟩ := hel i _ (List.getElem?_eq_getElem hi)
  obtain ⟨f, hf⟩ := trod_float (k := .f64) (by kernel_rfl) ht
  rw [hf] at hcc
  have := hcc 0 (by decide)
  rw [Nat.mul_one, Nat.add_zero] at this
  exact ⟨f, below_cell h2 this⟩
theorem len2 {α : Type} {l : List α} (h : l.length = 2) : ∃ u v, l = [u, v] := by
  match l, h with
  | [u, v], _ => exact ⟨u, v, rfl⟩
theorem cheats_global : Tryz.prog.globalNamed "internal/strconv.leftcheats" = some 11 := by kernel_rfl
def cut53 : List UInt8 := [49, 49, 49, 48, 50, 50, 51, 48, 50, 52, 54, 50, 53, 49, 53, 54, 53, 52, 48, 52, 50, 51, 54, 51, 49, 54, 54, 56, 48, 57, 48, 56, 50, 48, 51, 49, 50, 53]
def HasCheat (w : World) (R o i : Nat) (d : Int) (s : List UInt8) : Prop := w.cell? ⟨R, o + i * 2 + 0, none⟩ = some (.int .i64 d) ∧ w.cell? ⟨R, o + i * 2 + 1, none⟩ = some (.string ⟨s.toArray⟩)
theorem Tabs.cheats {w : World} (h : Tabs w) : ∃ R o c, w.cell? ⟨11, 0, none⟩ = some (.slice (some ⟨R, o, none⟩) 61 c) ∧ HasCheat w R o 1 1 [53] ∧ HasCheat w R o 53 16 cut53 := by
  obtain ⟨W0, h1, h2⟩ := h.laid
  have h3 := h1.tail.tail.tail.tail.tail.tail.tail.tail.tail.tail.tail
  obtain ⟨cs, fuel, p, hv, hd⟩ := laid_head (t := 345) cheats_global (by kernel_rfl) h3
  obtain ⟨R, o, c, hc, hel⟩ := slice_tab (e := 344) (c1 := 2) (by kernel_rfl) (Nat.lt_of_lt_of_eq (show 0 < 61 by decide) (by kernel_rfl)) (by kernel_rfl) (by decide) hd
  have key : ∀ (i : Nat) (d : Int) (s : List UInt8), _ → HasCheat w R o i d s := fun i d s hg => by
    obtain ⟨vs, n, q, ht, hl, hcc⟩ := hel i (.agg [.lit (.int .i64 d), .lit (.string s)]) hg
    obtain ⟨xs, m, _, hx, _, hlen, hf⟩ := DataW.trod_struct (fs := #[⟨ "delta", 3, 0, false, "", "internal/strconv", 0⟩, ⟨ "cutoff", 9, 1, false, "", "internal/strconv", 8⟩]) (by kernel_rfl) ht
    obtain ⟨a, b, rfl⟩ : ∃ a b, xs = [a, b] := by
      match xs, hlen with
      | [a, b], _ => exact ⟨a, b, rfl⟩
    have hxs := congrArg Prod.fst hx
    simp only [List.map_cons, List.map_nil, DataW.agg.injEq, List.cons.injEq, and_true] at hxs
    obtain ⟨ea, eb⟩ := hxs
    have ha := trod_int_lit (k := .i64) (n := d) (q := a.2) (by kernel_rfl) ((hf 0 ⟨ "delta", 3, 0, false, "", "internal/strconv", 0⟩ rfl).trans (by rw [ea]; rfl))
    have hb := trod_str_lit (l := s) (q := b.2) (by kernel_rfl) ((hf 1 ⟨ "cutoff", 9, 1, false, "", "internal/strconv", 8⟩ rfl).trans (by rw [eb]; rfl))
    obtain ⟨u, v, e⟩ := len2 hl
    subst e
    have h09 : Tryz.prog.cellsOf 9 = 1 := by kernel_rfl
    have h03 : Tryz.prog.cellsOf 3 = 1 := by kernel_rfl
    dsimp only at ha hb
    simp only [h09, h03, List.drop, List.take] at ha hb
    have ea2 : [u] = [Value.int .i64 d] := ha
    have eb2 : [v] = [Value.string ⟨s.toArray⟩] := hb
    cases ea2; cases eb2
    exact ⟨below_cell h2 (hcc 0 (by decide)), below_cell h2 (hcc 1 (by decide))⟩
  exact ⟨R, o, c, head_cell h2 cheats_global hv (by rw [hc]; rfl), key 1 1 [53] rfl, key 53 16 cut53 rfl⟩
theorem p10_global : Tryz.prog.globalNamed "internal/strconv.pow10Tab" = some 10 := by kernel_rfl
theorem Tabs.p10 {w : World} (h : Tabs w) : ∀ i < 696, ∃ x y : Int, w.cell? ⟨10, i * 2, none⟩ = some (.int .u64 x) ∧ w.cell? ⟨10, i * 2 + 1, none⟩ = some (.int .u64 y) ∧ (0 ≤ x ∧ x ≤ 18446744073709551615) ∧ (0 ≤ y ∧ y ≤ 18446744073709551615) := by
  obtain ⟨W0, h1, h2⟩ := h.laid
  have h3 := h1.tail.tail.tail.tail.tail.tail.tail.tail.tail.tail.tail.tail
  obtain ⟨cs, fuel, p, hv, hd⟩ := laid_head (t := 339) p10_global (by kernel_rfl) h3
  obtain ⟨xs, m, _, _, hl, hlen, hf⟩ := DataW.trod_array (n := 696) (e := 338) (by kernel_rfl) hd
  have hce : Tryz.prog.cellsOf 338 = 2 := by kernel_rfl
  rw [hce] at hf
  have hct : Tryz.prog.cellsOf 339 = 1392 := by kernel_rfl
  rw [hct] at hl
  intro i hi
  have h4 := hf i hi
  rw [List.getElem?_eq_getElem (by omega)] at h4
  obtain ⟨ys, n, _, _, hl2, hlen2, hf2⟩ := DataW.trod_struct (fs := #[⟨ "hi", 211, 0, false, "", "internal/strconv", 0⟩, ⟨ "lo", 211, 1, false, "", "internal/strconv", 8⟩]) (by kernel_rfl) h4
  obtain ⟨a, b, rfl⟩ : ∃ a b, ys = [a, b] := by
    match ys, hlen2 with
    | [a, b], _ => exact ⟨a, b, rfl⟩
  obtain ⟨x, hx, _, wx⟩ := DataW.trod_int (k := .u64) (by kernel_rfl) (hf2 0 ⟨ "hi", 211, 0, false, "", "internal/strconv", 0⟩ rfl)
  obtain ⟨y, hy, _, wy⟩ := DataW.trod_int (k := .u64) (by kernel_rfl) (hf2 1 ⟨ "lo", 211, 1, false, "", "internal/strconv", 8⟩ rfl)
  have hc1 : Tryz.prog.cellsOf 211 = 1 := by kernel_rfl
  dsimp only at hx hy
  simp only [hc1] at hx hy
  have gx := congrArg (·[0]?) hx
  have gy := congrArg (·[0]?) hy
  simp [List.getElem?_take, List.getElem?_drop] at gx gy
  simp only [Lit.wf, Bool.and_eq_true, decide_eq_true_eq] at wx wy
  exact ⟨x, y, head_cell h2 p10_global hv (by simpa using gx), head_cell h2 p10_global hv (by simpa using gy), wx, wy⟩
end Go.Proofs.YtpajcfkldnbpfaaGreatDoor
