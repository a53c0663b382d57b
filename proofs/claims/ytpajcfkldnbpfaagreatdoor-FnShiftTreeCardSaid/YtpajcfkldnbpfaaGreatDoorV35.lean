/- floatBits. readFloat. -/
import Derived.Test.YtpajcfkldnbpfaaGreatDoorV34
import Derived.ScopeJumps
import Derived.WalkMore
import Derived.Deep.CutBlock
import Derived.BigQuiet
set_option linter.unusedSimpArgs false
set_option linter.unusedVariables false
namespace Go.Proofs.YtpajcfkldnbpfaaGreatDoor
open Go.RowKit
theorem wp_scope_fwd {P : Program} {a : Act} {w : World} {Q : Exit → Act → World → Prop} {c rest : Code} (l : Nat) (hf : findLabel c l = some rest)
    (first : c.wp P (Exit.jump l (fun a w => rest.wp P (Exit.noGoto Q) a w) Q) a w) : (Code.scope c).wp P Q a w := by
  refine wp_scope_jumps l (fun a w => rest.wp P (Exit.noGoto Q) a w) (fun _ _ => 0) hf first (fun a w h => ?_)
  intro b k cs
  obtain ⟨e, a', w', hq, harr⟩ := h b k cs
  refine ⟨e, a', w', ?_, harr⟩
  cases e with
  | goto l' => exact hq.elim
  | _ => exact hq
def f0Of (d : Nat) (w : World) : Nat := match w.cell? ⟨d, 0, none⟩ with | some (.int _ c) => (60 - c).toNat | _ => 0
theorem DS.f0 {w0 w : World} {d : Nat} {f : Nat → Int} {nd dp : Int} {ng tr : Bool} (h : DS w0 d w f nd dp ng tr) : f0Of d w = (60 - f 0).toNat := by
  unfold f0Of
  rw [h.cell (dec_d _ _ _ _ _ (by decide))]
def mu (dp c : Int) : Nat := if dp ≤ 0 then 0 else if dp = 1 then (if c < 56 then 1 else 2) else dp.toNat + 1
def muOf (d : Nat) (w : World) : Nat := match w.cell? ⟨d, 801, none⟩, w.cell? ⟨d, 0, none⟩ with | some (.int _ dp), some (.int _ c) => mu dp c | _, _ => 0
theorem DS.mu {w0 w : World} {d : Nat} {f : Nat → Int} {nd dp : Int} {ng tr : Bool} (h : DS w0 d w f nd dp ng tr) : muOf d w = YtpajcfkldnbpfaaGreatDoor.mu dp (f 0) := by
  unfold muOf
  rw [h.cell (dec_dp _ _ _ _ _), h.cell (dec_d _ _ _ _ _ (by decide))]
theorem rb27 (r : Nat) (h : 1 ≤ r ∧ r ≤ 12) (h1 : (2 : Int) ^ 27 < 10 ^ r) (h2 : 2 ≤ r → (10 : Int) ^ (r - 2) < 2 ^ 27) : 9 ≤ r ∧ r ≤ 10 := by
  have key : ∀ r : Fin 13, 1 ≤ r.val → (2 : Int) ^ 27 < 10 ^ r.val → (2 ≤ r.val → (10 : Int) ^ (r.val - 2) < 2 ^ 27) → 9 ≤ r.val ∧ r.val ≤ 10 := by decide +kernel
  exact key ⟨r, by omega⟩ h.1 h1 h2
def powN (j : Nat) : Nat := [1, 3, 6, 9, 13, 16, 19, 23, 26].getD j 0
theorem rbN (j r : Nat) (hj : 1 ≤ j ∧ j ≤ 8) (h : 1 ≤ r ∧ r ≤ 12) (h1 : (2 : Int) ^ powN j < 10 ^ r) (h2 : 2 ≤ r → (10 : Int) ^ (r - 2) < 2 ^ powN j) : j ≤ r ∧ r ≤ j + 1 := by
  have key : ∀ (j : Fin 9) (r : Fin 13), 1 ≤ j.val → 1 ≤ r.val → (2 : Int) ^ powN j.val < 10 ^ r.val → (2 ≤ r.val → (10 : Int) ^ (r.val - 2) < 2 ^ powN j.val) → j.val ≤ r.val ∧ r.val ≤ j.val + 1 := by decide +kernel
  exact key ⟨j, by omega⟩ ⟨r, by omega⟩ hj.1 h.1 h1 h2
theorem powN_rng (j : Nat) (hj : 1 ≤ j ∧ j ≤ 8) : 1 ≤ powN j ∧ powN j ≤ 27 := by
  have key : ∀ j : Fin 9, 1 ≤ j.val → 1 ≤ powN j.val ∧ powN j.val ≤ 27 := by decide +kernel
  exact key ⟨j, by omega⟩ hj.1
theorem powN_L (j : Nat) (hj : j ≤ 8) : powL.getD j 0 = (powN j : Int) := by
  have key : ∀ j : Fin 9, powL.getD j.val 0 = (powN j.val : Int) := by decide +kernel
  exact key ⟨j, by omega⟩
theorem mu_le (x c : Int) : mu x c ≤ x.toNat + 1 := by
  unfold mu
  split
  · omega
  · split
    · split <;> omega
    · omega
theorem mu_less {dp c c' : Int} {r k : Nat} (h1 : 1 ≤ dp) (h18 : dp ≤ 18) (hr : (9 ≤ dp ∧ 9 ≤ r ∧ r ≤ 10) ∨ (dp ≤ 8 ∧ k = powN dp.toNat ∧ dp ≤ r ∧ (r : Int) ≤ dp + 1)) (hc : 48 ≤ c ∧ c ≤ 57) (hc' : c' ≠ 48) (h : r = 1 → c' = (c - 48) / 2 ^ k + 48) : mu (dp + 1 - r) c' + 1 ≤ mu dp c ∧ 0 ≤ dp + 1 - r ∧ dp + 1 - r ≤ 18 := by
  have hE : ∀ x : Int, (dp + 1 - r = x) → mu x c' + 1 ≤ mu dp c := fun x hx => by
    rcases hr with ⟨h9, h10, h11⟩ | ⟨h8, hk, h10, h11⟩
    · have h2 := mu_le x c'
      have h3 : mu dp c = dp.toNat + 1 := by unfold mu; rw [if_neg (by omega), if_neg (by omega)]
      omega
    · by_cases hr1 : r = 1
      · subst hr1
        have hd1 : dp = 1 := by omega
        subst hd1
        have h3 := h rfl
        have hk3 : k = 3 := hk
        subst hk3
        have e3 : (2 : Int) ^ 3 = 8 := by decide
        rw [e3] at h3
        have hx1 : x = 1 := by omega
        subst hx1
        unfold mu
        have h56 : ¬ c < 56 := by omega
        have h56b : c' < 56 := by omega
        simp [h56, h56b]
      · have hx : x ≤ 1 := by omega
        unfold mu
        split
        · split
          · omega
          · split
            · split <;> omega
            · omega
        · have hx1 : x = 1 := by omega
          subst hx1
          have hd2 : ¬ dp ≤ 0 := by omega
          have hd3 : ¬ dp = 1 := by omega
          rw [if_pos rfl, if_neg hd2, if_neg hd3]
          split <;> omega
  refine ⟨hE _ rfl, ?_⟩
  rcases hr with ⟨h9, h10, h11⟩ | ⟨h8, hk, h10, h11⟩ <;> omega
def FbR (w0 : World) (e : Ending) (w' : World) : Prop := ∃ b : Int, e = .returned (.tuple #[.int .u64 b, .bool false]) ∧ Below w0.heap.size w0 w'
set_option maxRecDepth 100000 in
set_option maxHeartbeats 4000000 in
theorem floatBits_any (w0 : World) (d : Nat) (f : Nat → Int) (n : Nat) (dp : Int) (ng : Bool) (w : World) (hS : DS w0 d w f n dp ng false) (h1 : 1 ≤ n) (h8 : n ≤ 25) (hd : Digs10 f n) (hf : f 0 ≠ 48) (hdp : 1 ≤ dp ∧ dp ≤ 18) (hT : Tabs w0) : Calls Tryz.prog 156 #[.pointer (some ⟨d, 0, none⟩), .pointer (some ⟨6, 0, none⟩)] w (FbR w0) := by
  have hst := hS
  have HD := Lib.hid (And.intro hd (And.intro hf (And.intro hT hS)))
  clear hd hf hT hS
  go_enter Tryz.func156, Tryz.ntmps156
  go_wp2_with ((first | ((with_reducible refine at_load ?_); first | refine dl_ld hst rfl rfl rfl (one_of (by decide +kernel)) (dec_nd _ _ _ _ _) ?_ | refine dl_ld hst rfl rfl rfl (one_of (by decide +kernel)) (dec_dp _ _ _ _ _) ?_ | refine dl_ld hst rfl rfl rfl (one_of (by decide +kernel)) (dec_ng _ _ _ _ _) ?_ | refine dl_ld hst rfl rfl rfl (one_of (by decide +kernel)) (dec_tr _ _ _ _ _) ?_ | refine dl_ld hst rfl rfl rfl (one_of (by decide +kernel)) (dec_d _ _ _ _ _ (by omega)) ?_) | ((with_reducible refine at_store ?_); (first | refine dl_st hst rfl rfl rfl (rfl : _ = Value.int _ _) rfl (sz1_of (by decide +kernel)) (by decide) (dset_nd _ _ _ _ _ _) ?_ | refine dl_st hst rfl rfl rfl (rfl : _ = Value.int _ _) rfl (sz1_of (by decide +kernel)) (by decide) (dset_dp _ _ _ _ _ _) ?_ | refine dl_st hst rfl rfl rfl (rfl : _ = Value.bool _) rfl (sz1_of (by decide +kernel)) (by decide) (dset_tr _ _ _ _ _ _) ?_ | refine dl_st hst rfl rfl rfl (rfl : _ = Value.bool _) rfl (sz1_of (by decide +kernel)) (by decide) (dset_ng _ _ _ _ _ _) ?_ | refine dl_st hst rfl rfl rfl (rfl : _ = Value.int _ _) rfl (sz1_of (by decide +kernel)) (by omega) (dset_d _ _ _ _ _ _ (by omega)) ?_); clear hst; intro w hst)))
  refine wp_scope_fwd 0 (by simp only [findLabel]; rfl) ?_
  go_upto_block 0 with ((first | ((with_reducible refine at_load ?_); first | refine dl_ld hst rfl rfl rfl (one_of (by decide +kernel)) (dec_nd _ _ _ _ _) ?_ | refine dl_ld hst rfl rfl rfl (one_of (by decide +kernel)) (dec_dp _ _ _ _ _) ?_ | refine dl_ld hst rfl rfl rfl (one_of (by decide +kernel)) (dec_ng _ _ _ _ _) ?_ | refine dl_ld hst rfl rfl rfl (one_of (by decide +kernel)) (dec_tr _ _ _ _ _) ?_ | refine dl_ld hst rfl rfl rfl (one_of (by decide +kernel)) (dec_d _ _ _ _ _ (by omega)) ?_) | ((with_reducible refine at_store ?_); (first | refine dl_st hst rfl rfl rfl (rfl : _ = Value.int _ _) rfl (sz1_of (by decide +kernel)) (by decide) (dset_nd _ _ _ _ _ _) ?_ | refine dl_st hst rfl rfl rfl (rfl : _ = Value.int _ _) rfl (sz1_of (by decide +kernel)) (by decide) (dset_dp _ _ _ _ _ _) ?_ | refine dl_st hst rfl rfl rfl (rfl : _ = Value.bool _) rfl (sz1_of (by decide +kernel)) (by decide) (dset_tr _ _ _ _ _ _) ?_ | refine dl_st hst rfl rfl rfl (rfl : _ = Value.bool _) rfl (sz1_of (by decide +kernel)) (by decide) (dset_ng _ _ _ _ _ _) ?_ | refine dl_st hst rfl rfl rfl (rfl : _ = Value.int _ _) rfl (sz1_of (by decide +kernel)) (by omega) (dset_d _ _ _ _ _ _ (by omega)) ?_); clear hst; intro w hst)))
  rename World => wd
  clear hst
  go_cut [6, 8] from 35 to 60 (fun e _ wx => ∃ (x : Int) (n' : Nat) (f' : Nat → Int) (tr : Bool), e = .int .i64 x ∧ 0 ≤ x ∧ x ≤ 600 ∧ 1 ≤ n' ∧ n' ≤ 600 ∧ Hid (Digs10 f' n' ∧ f' 0 ≠ 48) ∧ Hid (DS w0 d wx f' n' 0 ng tr))
  case first =>
    as_aux_lemma =>
    have hmu0 := mu_le dp (f 0)
    go_wp2_with fail
    go_loopw [6] (fun e wx => ∃ (x : Int) (n' : Nat) (f' : Nat → Int) (tr : Bool) (dp' : Int), e = .int .i64 x ∧ 0 ≤ x ∧ 1 ≤ n' ∧ (0 ≤ dp' ∧ dp' ≤ 18) ∧ Hid (n' + 28 * mu dp' (f' 0) ≤ 557 ∧ x + 27 * mu dp' (f' 0) ≤ 513) ∧ Hid (Digs10 f' n' ∧ f' 0 ≠ 48) ∧ Hid (DS w0 d wx f' n' dp' ng tr)) (fun _ wx => muOf d wx)
    case atStart => exact ⟨0, n, f, false, dp, rfl, by omega, h1, by omega, Lib.hid ⟨by omega, by omega⟩, Lib.hid ⟨HD.out.1, HD.out.2.1⟩, Lib.hid HD.out.2.2.2⟩
    case round =>
      have HT := Lib.hid HD.out.2.2.1
      clear HD hmu0 h1 h8 hdp
      obtain ⟨x, n', f', tr, dp', rfl, hx0, hn1, hdp', HM, HG, HL⟩ := hrel
      have hst := HL.out
      have c1 := hst.cell (dec_dp _ _ _ _ _)
      obtain ⟨hMa, hMb⟩ := HM.out
      have hn6 : n' ≤ 600 := by omega
      have hx6 : x ≤ 600 := by omega
      clear hMa hMb
      by_cases h0 : 0 < dp'
      · obtain ⟨R, o, cp, c8, hpt⟩ := (HT.out.below hst.st.kp.below).powtab
        by_cases h9 : 9 ≤ dp'
        · go_upto_region 13 with fail
          go_quiet (fail)
          replace hst := hst.drewN nq
          generalize wr.drewN nq = w2 at *
          clear c1 c8 hpt
          go_wp2_with fail
          refine (shiftR_any w0 d f' n' 27 dp' ng tr _ hst hn1 (by omega) HG.out.1 HG.out.2 (by decide) (by decide) (by omega)).mono ?_
          rintro e w4 ⟨r, m, f2, tr2, hr1, hr2, hr3, hr4, hm1, hm2, hd2, hf2, hr5, rfl, hst4⟩
          obtain ⟨q1, q2⟩ := rb27 r ⟨hr1, hr2⟩ hr3 hr4
          obtain ⟨hl1, hl2⟩ := mu_less (k := 27) (by omega) hdp'.2 (.inl ⟨h9, q1, q2⟩) (HG.out.1 0 (by omega)) hf2 hr5
          have HF := Lib.hid (And.intro hl1 (And.intro hd2 (And.intro hf2 hst4)))
          clear hst hl1 hd2 hf2 hst4 hr3 hr4 hr5
          go_wp2_with fail
          go_round
          ((case rel => exact ⟨x + 27, m, f2, tr2, _, (by first | rfl | simp), by omega, hm1, hl2, Lib.hid ⟨by have h7 := HF.out.1; have h8 := HM.out; omega, by have h7 := HF.out.1; have h8 := HM.out; omega⟩, Lib.hid ⟨HF.out.2.1, HF.out.2.2.1⟩, Lib.hid HF.out.2.2.2⟩); (case measure => (rw [HF.out.2.2.2.mu, HL.out.mu]; have h7 := HF.out.1; omega)))
        · obtain ⟨j, rfl⟩ : ∃ j : Nat, dp' = j := ⟨dp'.toNat, by omega⟩
          have hpj := hpt j (by omega)
          rw [powN_L j (by omega)] at hpj
          obtain ⟨hk1, hk2⟩ := powN_rng j (by omega)
          have hkk : powN j = powN j := rfl
          generalize hk : powN j = k at *
          have hj9 : (j : Int) < 9 := by omega
          have hj0 : (0 : Int) ≤ (j : Int) := by omega
          have HPT := Lib.hid (And.intro c1 (And.intro c8 hpj))
          clear hpt
          go_upto_region 13 with fail
          go_quiet (fail)
          replace hst := hst.drewN nq
          clear c1 c8 hpj
          have c1 : (wr.drewN nq).cell? ⟨d, 801, none⟩ = some (.int .i64 (j : Int)) := by rw [World.cell?_drewN]; exact HPT.out.1
          have c8 : (wr.drewN nq).cell? ⟨8, 0, none⟩ = some (.slice (some ⟨R, o, none⟩) 9 cp) := by rw [World.cell?_drewN]; exact HPT.out.2.1
          have hpj : (wr.drewN nq).cell? ⟨R, o + j, none⟩ = some (.int .i64 (k : Int)) := by rw [World.cell?_drewN]; exact HPT.out.2.2
          clear HPT
          generalize wr.drewN nq = w2 at *
          go_upto_region 15 with fail
          go_quiet (fail)
          replace hst := hst.drewN nq
          clear c1 c8 hpj
          generalize w2.drewN nq = w3 at *
          go_wp2_with fail
          refine (shiftR_any w0 d f' n' k j ng tr _ hst hn1 (by omega) HG.out.1 HG.out.2 hk1 hk2 (by omega)).mono ?_
          rintro e w4 ⟨r, m, f2, tr2, hr1, hr2, hr3, hr4, hm1, hm2, hd2, hf2, hr5, rfl, hst4⟩
          obtain ⟨q1, q2⟩ := rbN j r (by omega) ⟨hr1, hr2⟩ (by rw [hk]; exact hr3) (by rw [hk]; exact hr4)
          obtain ⟨hl1, hl2⟩ := mu_less (dp := (j : Int)) (k := k) (by omega) hdp'.2 (.inr ⟨by omega, by rw [Int.toNat_natCast, hk], by omega, by omega⟩) (HG.out.1 0 (by omega)) hf2 hr5
          have HF := Lib.hid (And.intro hl1 (And.intro hd2 (And.intro hf2 hst4)))
          clear hst hl1 hd2 hf2 hst4 hr3 hr4 hr5 hk hkk
          go_wp2_with fail
          go_round
          ((case rel => exact ⟨x + k, m, f2, tr2, _, (by first | rfl | simp), by omega, hm1, hl2, Lib.hid ⟨by have h7 := HF.out.1; have h8 := HM.out; omega, by have h7 := HF.out.1; have h8 := HM.out; omega⟩, Lib.hid ⟨HF.out.2.1, HF.out.2.2.1⟩, Lib.hid HF.out.2.2.2⟩); (case measure => (rw [HF.out.2.2.2.mu, HL.out.mu]; have h7 := HF.out.1; omega)))
      · obtain rfl : dp' = 0 := by omega
        go_wp2_with fail
        go_meet
        case rel => exact ⟨x, n', f', tr, rfl, hx0, hx6, hn1, hn6, HG, HL⟩
  case rest =>
  obtain ⟨x, n1, f1, tr, rfl, hx0, hx6, hn1, hn6, HG, HL⟩ := hcut
  clear h1 h8 hdp
  have HT := Lib.hid HD.out.2.2.1
  clear HD
  go_upto_block 2 with fail
  go_cut [6, 9] from 61 to 102 (fun e _ wx => ∃ (x : Int) (n' : Nat) (f' : Nat → Int) (tr : Bool), e = .int .i64 x ∧ -10 ≤ x ∧ x ≤ 600 ∧ 1 ≤ n' ∧ n' ≤ 600 ∧ Hid (Digs10 f' n' ∧ 53 ≤ f' 0) ∧ Hid (DS w0 d wx f' n' 0 ng tr))
  case first =>
    as_aux_lemma =>
    go_wp2_with fail
    go_loopw [6] (fun e wx => ∃ (x : Int) (n' : Nat) (f' : Nat → Int) (tr : Bool), e = .int .i64 x ∧ (1 ≤ n' ∧ n' ≤ 600) ∧ Hid (x ≤ 600 ∧ 49 ≤ x + f' 0) ∧ Hid (Digs10 f' n' ∧ f' 0 ≠ 48) ∧ Hid (DS w0 d wx f' n' 0 ng tr)) (fun _ wx => f0Of d wx)
    case atStart => exact ⟨x, n1, f1, tr, rfl, ⟨hn1, hn6⟩, Lib.hid ⟨hx6, by have h7 := HG.out.1 0 (by omega); have h8 := HG.out.2; omega⟩, HG, HL⟩
    case round =>
      clear hx0 hx6 HG HL hn1 hn6
      obtain ⟨x, n', f', tr, rfl, ⟨hn1, hn6⟩, HM, HG, HL⟩ := hrel
      have hst := HL.out
      have al := al272
      have c1 := hst.cell (dec_dp _ _ _ _ _)
      have c0 := hst.cell (dec_d f' n' 0 ng tr (i := 0) (by decide))
      by_cases h53 : f' 0 < 53
      · obtain ⟨R, o, cp, c8, hpt⟩ := (HT.out.below hst.st.kp.below).powtab
        have hp0 := hpt 0 (by decide)
        rw [show powL.getD 0 0 = 1 from rfl] at hp0
        have hx1 := HM.out
        obtain ⟨hx2, hx3⟩ := hx1
        have hf7 := HG.out.1 0 (by omega)
        have hx8 : -10 ≤ x := by omega
        clear hpt hx3 hf7
        have HPT := Lib.hid (And.intro c1 (And.intro c8 hp0))
        go_upto_region 20 with fail
        go_quiet (fail)
        replace hst := hst.drewN nq
        clear c1 c8 hp0 c0
        have c1 : (wr.drewN nq).cell? ⟨d, 801, none⟩ = some (.int .i64 0) := by rw [World.cell?_drewN]; exact HPT.out.1
        have c8 : (wr.drewN nq).cell? ⟨8, 0, none⟩ = some (.slice (some ⟨R, o, none⟩) 9 cp) := by rw [World.cell?_drewN]; exact HPT.out.2.1
        have hp0 : (wr.drewN nq).cell? ⟨R, o, none⟩ = some (.int .i64 1) := by rw [World.cell?_drewN]; exact HPT.out.2.2
        clear HPT
        generalize wr.drewN nq = w2 at *
        go_upto_region 22 with fail
        go_quiet (fail)
        replace hst := hst.drewN nq
        clear c1 c8 hp0
        generalize w2.drewN nq = w3 at *
        go_wp2_with fail
        refine (shiftL_any w0 d f' n' 1 0 0 ng tr _ hst hn1 (by omega) HG.out.1 HG.out.2 (.inl ⟨rfl, rfl, by omega⟩) (by omega) HT.out).mono ?_
        rintro e w4 ⟨m, f2, tr2, hm1, hm2, hd2, hf2, hr5, rfl, hst4⟩
        have hr6 := hr5 rfl
        have HF := Lib.hid (And.intro hr6 (And.intro hd2 (And.intro hf2 hst4)))
        clear hst hd2 hf2 hst4 hr5 hr6
        go_wp2_with fail
        go_round
        case rel =>
          have h7 := HF.out.1
          have h8 := HM.out
          have h9 := HG.out.1 0 (by omega)
          have h10 := HG.out.2
          rw [show (2 : Int) ^ 1 = 2 from rfl] at h7
          exact ⟨x - 1, m, f2, tr2, rfl, ⟨hm1, by omega⟩, Lib.hid ⟨by omega, by omega⟩, Lib.hid ⟨HF.out.2.1, HF.out.2.2.1⟩, Lib.hid (by simpa using HF.out.2.2.2)⟩
        case measure =>
          rw [HF.out.2.2.2.f0, HL.out.f0]
          have h7 := HF.out.1
          have h9 := HG.out.1 0 (by omega)
          have h10 := HG.out.2
          rw [show (2 : Int) ^ 1 = 2 from rfl] at h7
          omega
      · go_wp2_with fail
        go_meet
        case rel =>
          have h8 := HM.out
          have h9 := HG.out.1 0 (by omega)
          exact ⟨x, n', f', tr, rfl, by omega, by omega, hn1, hn6, Lib.hid ⟨HG.out.1, h53⟩, HL⟩
  case rest =>
  clear hx0 hx6 hn1 hn6 HG HL
  clear n1 f1 tr x
  obtain ⟨x, n2, f2, tr, rfl, hx0, hx6, hn1, hn6, HG, HL⟩ := hcut
  have hst := HL.out
  clear HL
  obtain ⟨c60, c61, c62⟩ := (HT.out.below hst.st.kp.below).info
  have HC := Lib.hid (And.intro c60 (And.intro c61 c62))
  have hw1 : IntKind.i64.wrap (x - 1) = x - 1 := IntWalk.i64_in _ (by omega)
  go_upto_region 30 with fail
  go_quiet (fail)
  replace hst := hst.drewN nq
  clear c60 c61 c62
  have c60 : (wc.drewN nq).cell? ⟨6, 0, none⟩ = some (.int .u64 52) := by rw [World.cell?_drewN]; exact HC.out.1
  clear HC
  generalize wc.drewN nq = w2 at *
  go_wp2_with fail
  refine (shiftL_any w0 d f2 n2 53 16 0 ng tr _ hst hn1 (by omega) HG.out.1 (by have := HG.out.2; omega) (.inr ⟨rfl, rfl, HG.out.2⟩) (by omega) HT.out).mono ?_
  rintro e w4 ⟨m, f3, tr3, hm1, hm2, hd3, hf3, -, rfl, hst4⟩
  clear hst c60 HG
  have hst : DS w0 d w4 f3 m ((16 : Nat) : Int) ng tr3 := by simpa using hst4
  clear hst4
  go_wp2_with fail
  refine (rounded_any w0 d f3 m 16 ng tr3 _ hst (by omega) hd3 (by decide)).mono ?_
  rintro e w5 ⟨u, hu, rfl, hst5⟩
  clear hst hd3 hf3
  have hst := hst5
  clear hst5
  obtain ⟨c60, c61, c62⟩ := (HT.out.below hst.st.kp.below).info
  have HS := Lib.hid (And.intro hst (And.intro c60 (And.intro c61 c62)))
  clear hst
  have hw2 : IntKind.i64.wrap (x - 1 + 1) = x := (IntWalk.i64_in _ (by omega)).trans (by omega)
  go_upto_region 33 with fail
  go_cut [155] from 149 to 155 (fun y wx => (∃ b : Bool, y = .bool b) ∧ w5 = wx)
  case first =>
    as_aux_lemma =>
    go_wp2_with fail
    go_meet
    case rel => exact ⟨⟨_, rfl⟩, by first | rfl | trivial⟩
  case rest =>
  obtain ⟨⟨bb, rfl⟩, rfl⟩ := hcut
  go_upto_if 155 with fail
  go_cut [6, 7] from 156 to 172 (fun e z wx => (∃ x : Int, e = .int .i64 x) ∧ (∃ u : Int, z = .int .u64 u) ∧ Hid (DS w0 d wx f3 m 16 ng tr3))
  case first =>
    as_aux_lemma =>
    cases bb
    · go_wp2_with fail
      go_meet
      case rel => exact ⟨⟨_, rfl⟩, ⟨_, rfl⟩, Lib.hid HS.out.1⟩
    · go_upto_region 36 with fail
      go_quiet (fail)
      have hst := HS.out.1.drewN nq
      clear c60 c61 c62 HS
      go_wp2_with fail
      go_meet
      case rel => exact ⟨⟨_, rfl⟩, ⟨_, rfl⟩, Lib.hid hst⟩
  case rest =>
  clear hw1 hw2 hu hx0 hx6 c60 c61 c62 HS
  obtain ⟨⟨x3, rfl⟩, ⟨u3, rfl⟩, HL⟩ := hcut
  obtain ⟨c60, c61, c62⟩ := (HT.out.below HL.out.st.kp.below).info
  go_upto_region 37 with fail
  go_cut [180] from 173 to 180 (fun y wx => (∃ b : Bool, y = .bool b) ∧ wc = wx)
  case first =>
    as_aux_lemma =>
    go_wp2_with fail
    go_meet
    case rel => exact ⟨⟨_, rfl⟩, by first | rfl | trivial⟩
  case rest =>
  obtain ⟨⟨bb2, rfl⟩, rfl⟩ := hcut
  go_upto_if 180 with fail
  go_cut [6] from 181 to 184 (fun y wx => (∃ x : Int, y = .int .i64 x) ∧ wc = wx)
  case first =>
    as_aux_lemma =>
    cases bb2
    all_goals
      go_wp2_with fail
      go_meet
      case rel => exact ⟨⟨_, rfl⟩, by first | rfl | trivial⟩
  case rest =>
  obtain ⟨⟨x2, rfl⟩, rfl⟩ := hcut
  go_wp2_with fail
  apply wp_goto
  show (0 = 0 ∧ Code.wp _ _ _ _ _)
  refine ⟨rfl, ?_⟩
  as_aux_lemma =>
  have HC := Lib.hid (And.intro c60 (And.intro c61 c62))
  go_upto_region 43 with fail
  go_quiet (fail)
  have hst := HL.out.drewN nq
  clear c60 c61 c62
  have c60 : (wc.drewN nq).cell? ⟨6, 0, none⟩ = some (.int .u64 52) := by rw [World.cell?_drewN]; exact HC.out.1
  have c61 : (wc.drewN nq).cell? ⟨6, 1, none⟩ = some (.int .u64 11) := by rw [World.cell?_drewN]; exact HC.out.2.1
  clear HC
  generalize wc.drewN nq = w6 at *
  have HB := Lib.hid hst.st.kp.below
  cases ng
  · go_wp2_with ((first | ((with_reducible refine at_load ?_); first | refine dl_ld hst rfl rfl rfl (one_of (by decide +kernel)) (dec_nd _ _ _ _ _) ?_ | refine dl_ld hst rfl rfl rfl (one_of (by decide +kernel)) (dec_dp _ _ _ _ _) ?_ | refine dl_ld hst rfl rfl rfl (one_of (by decide +kernel)) (dec_ng _ _ _ _ _) ?_ | refine dl_ld hst rfl rfl rfl (one_of (by decide +kernel)) (dec_tr _ _ _ _ _) ?_ | refine dl_ld hst rfl rfl rfl (one_of (by decide +kernel)) (dec_d _ _ _ _ _ (by omega)) ?_) | ((with_reducible refine at_store ?_); (first | refine dl_st hst rfl rfl rfl (rfl : _ = Value.int _ _) rfl (sz1_of (by decide +kernel)) (by decide) (dset_nd _ _ _ _ _ _) ?_ | refine dl_st hst rfl rfl rfl (rfl : _ = Value.int _ _) rfl (sz1_of (by decide +kernel)) (by decide) (dset_dp _ _ _ _ _ _) ?_ | refine dl_st hst rfl rfl rfl (rfl : _ = Value.bool _) rfl (sz1_of (by decide +kernel)) (by decide) (dset_tr _ _ _ _ _ _) ?_ | refine dl_st hst rfl rfl rfl (rfl : _ = Value.bool _) rfl (sz1_of (by decide +kernel)) (by decide) (dset_ng _ _ _ _ _ _) ?_ | refine dl_st hst rfl rfl rfl (rfl : _ = Value.int _ _) rfl (sz1_of (by decide +kernel)) (by omega) (dset_d _ _ _ _ _ _ (by omega)) ?_); clear hst; intro w hst)))
    exact ret_tmp2 rfl rfl rfl rfl ⟨_, rfl, HB.out⟩
  · go_upto_region 45 with ((first | ((with_reducible refine at_load ?_); first | refine dl_ld hst rfl rfl rfl (one_of (by decide +kernel)) (dec_nd _ _ _ _ _) ?_ | refine dl_ld hst rfl rfl rfl (one_of (by decide +kernel)) (dec_dp _ _ _ _ _) ?_ | refine dl_ld hst rfl rfl rfl (one_of (by decide +kernel)) (dec_ng _ _ _ _ _) ?_ | refine dl_ld hst rfl rfl rfl (one_of (by decide +kernel)) (dec_tr _ _ _ _ _) ?_ | refine dl_ld hst rfl rfl rfl (one_of (by decide +kernel)) (dec_d _ _ _ _ _ (by omega)) ?_) | ((with_reducible refine at_store ?_); (first | refine dl_st hst rfl rfl rfl (rfl : _ = Value.int _ _) rfl (sz1_of (by decide +kernel)) (by decide) (dset_nd _ _ _ _ _ _) ?_ | refine dl_st hst rfl rfl rfl (rfl : _ = Value.int _ _) rfl (sz1_of (by decide +kernel)) (by decide) (dset_dp _ _ _ _ _ _) ?_ | refine dl_st hst rfl rfl rfl (rfl : _ = Value.bool _) rfl (sz1_of (by decide +kernel)) (by decide) (dset_tr _ _ _ _ _ _) ?_ | refine dl_st hst rfl rfl rfl (rfl : _ = Value.bool _) rfl (sz1_of (by decide +kernel)) (by decide) (dset_ng _ _ _ _ _ _) ?_ | refine dl_st hst rfl rfl rfl (rfl : _ = Value.int _ _) rfl (sz1_of (by decide +kernel)) (by omega) (dset_d _ _ _ _ _ _ (by omega)) ?_); clear hst; intro w hst)))
    go_quiet (fail)
    have hst2 := hst.drewN nq
    have HB2 := Lib.hid hst2.st.kp.below
    clear c60 c61 hst hst2
    go_wp2_with fail
    exact ret_tmp2 rfl rfl rfl rfl ⟨_, rfl, HB2.out⟩
end Go.Proofs.YtpajcfkldnbpfaaGreatDoor
namespace Go.Proofs.YtpajcfkldnbpfaaGreatDoor
open Go.RowKit
theorem ret_tmp7 {P : Program} {w : World} {a : Act} {fn : Func} {R : Ending → World → Prop} {p1 p2 p3 p4 p5 p6 p7 : Nat} {v1 v2 v3 v4 v5 v6 v7 : Value} (hf : fn.results = #[.tmp p1, .tmp p2, .tmp p3, .tmp p4, .tmp p5, .tmp p6, .tmp p7]) (h1 : a.tmps.getD p1 undef = v1) (h2 : a.tmps.getD p2 undef = v2) (h3 : a.tmps.getD p3 undef = v3) (h4 : a.tmps.getD p4 undef = v4) (h5 : a.tmps.getD p5 undef = v5) (h6 : a.tmps.getD p6 undef = v6) (h7 : a.tmps.getD p7 undef = v7) (hd : a.defers = []) (h : R (.returned (.tuple #[v1, v2, v3, v4, v5, v6, v7])) w) : bodyPost P fn R .ret a w := by
  refine bodyPost_ret (v := .tuple #[v1, v2, v3, v4, v5, v6, v7]) ?_ hd h
  have h1' : a.tmps[p1]?.getD undef = v1 := by simpa using h1
  have h2' : a.tmps[p2]?.getD undef = v2 := by simpa using h2
  have h3' : a.tmps[p3]?.getD undef = v3 := by simpa using h3
  have h4' : a.tmps[p4]?.getD undef = v4 := by simpa using h4
  have h5' : a.tmps[p5]?.getD undef = v5 := by simpa using h5
  have h6' : a.tmps[p6]?.getD undef = v6 := by simpa using h6
  have h7' : a.tmps[p7]?.getD undef = v7 := by simpa using h7
  simp [results, hf, h1', h2', h3', h4', h5', h6', h7']
def BadS (s : ByteArray) (off k : Nat) : Prop := ∃ (h0 : 0 < s.size) (hk : off + k < s.size), ((off = 0 ∧ (s[0].toNat : Int) ≠ 43 ∧ (s[0].toNat : Int) ≠ 45) ∨ (off = 1 ∧ (s[0].toNat : Int) = 45)) ∧ k ≤ 1 ∧ (k = 1 → (s[off].toNat : Int) = 46) ∧ (s[off + k].toNat : Int) ≠ 46 ∧ (s[off + k].toNat : Int) ≠ 95 ∧ ((s[off + k].toNat : Int) < 48 ∨ 57 < (s[off + k].toNat : Int))
def RFB (w : World) (e : Ending) (w' : World) : Prop := ∃ (m p i : Int) (ng tr hx : Bool), e = .returned (.tuple #[.int .u64 m, .int .i64 p, .bool ng, .bool tr, .bool hx, .int .i64 i, .bool false]) ∧ w = w'
def RFR (s : ByteArray) (l : List UInt8) (w : World) (e : Ending) (w' : World) : Prop := ∃ (m p : Int) (ng tr : Bool), (0 ≤ m ∧ m < 10000000000000000000) ∧ (-60 ≤ p ∧ p ≤ 60) ∧ (tr = true → 20 ≤ (sc l).nd) ∧ e = .returned (.tuple #[.int .u64 m, .int .i64 p, .bool ng, .bool tr, .bool false, .int .i64 (s.size : Int), .bool true]) ∧ w = w'
set_option maxRecDepth 100000 in
set_option maxHeartbeats 2000000 in
theorem readF_bad (s : ByteArray) (off k : Nat) (hB : BadS s off k) (hs : s.size ≤ 1000) (w : World) : Calls Tryz.prog 149 #[.string s] w (RFB w) := by
  obtain ⟨h0, hk, hsg, hk1, hk46, h46, h95, hdg⟩ := hB
  have hne : ¬ s = ByteArray.empty := fun e => by rw [e] at h0; exact absurd h0 (by decide)
  go_enter Tryz.func149, Tryz.ntmps149
  go_wp2_with fail
  apply wp_scope_straight
  go_upto_block 0 with fail
  go_cut [7, 4] (fun i ng wx => i = .int .i64 off ∧ (∃ b : Bool, ng = .bool b) ∧ w = wx)
  case first => (rcases hsg with ⟨rfl, h43, h45⟩ | ⟨rfl, h45⟩; (focus (have h43b : ¬ (s[0].toNat = 43) := (by omega); have h45b : ¬ (s[0].toNat = 45) := (by omega); go_wp2_with fail; go_meet; case rel => exact ⟨rfl, ⟨_, rfl⟩, rfl⟩)); (have h45b : s[0].toNat = 45 := (by omega); go_wp2_with fail; go_meet; case rel => exact ⟨rfl, ⟨_, rfl⟩, rfl⟩))
  case rest =>
  obtain ⟨rfl, ⟨ng, rfl⟩, rfl⟩ := hcut
  have hoff : off ≤ 1 := by omega
  have h48 : ¬ (s[off].toNat : Int) = 48 := by
    rcases (by omega : k = 0 ∨ k = 1) with rfl | rfl
    · intro h; simp only [Nat.add_zero] at hdg; omega
    · have := hk46 rfl; omega
  have h48b : ¬ s[off].toNat = 48 := by omega
  go_upto_region 12 with fail
  go_cut [54] (fun y wx => y = .bool false ∧ w = wx)
  case first =>
    by_cases h2 : (off : Int) + 2 < s.size
    all_goals
      go_wp2_with fail
      go_meet
      case rel => exact ⟨rfl, rfl⟩
  case rest =>
  obtain ⟨rfl, rfl⟩ := hcut
  go_upto_block 1 with fail
  apply wp_label
  go_upto_block 1 with fail
  go_wp2_with fail
  go_loopw [7, 13, 14, 15, 16, 17, 2, 5, 9] (fun i dt sd nd nm dp m tr us wx => ∃ (j : Nat) (b : Bool), i = .int .i64 ((off + j : Nat) : Int) ∧ dt = .bool b ∧ sd = .bool false ∧ nd = .int .i64 0 ∧ nm = .int .i64 0 ∧ dp = .int .i64 0 ∧ m = .int .u64 0 ∧ tr = .bool false ∧ us = .bool false ∧ j ≤ k ∧ (j = 0 → b = false) ∧ w = wx) (fun i _ _ _ _ _ _ _ _ _ => off + k - (intOf i).toNat)
  case atStart => exact ⟨0, false, rfl, rfl, rfl, rfl, rfl, rfl, rfl, rfl, rfl, Nat.zero_le _, fun _ => rfl, rfl⟩
  case round =>
    obtain ⟨j, b, rfl, rfl, rfl, rfl, rfl, rfl, rfl, rfl, rfl, hjk, hb, rfl⟩ := hrel
    have hin : ((off + j : Nat) : Int) < s.size := by omega
    have hin2 : off + j < s.size := by omega
    have hge : (0 : Int) ≤ ((off + j : Nat) : Int) := by omega
    by_cases hj : j = k
    · subst hj
      have e46 : ¬ s[off + j].toNat = 46 := by omega
      have e95 : ¬ s[off + j].toNat = 95 := by omega
      go_wp2_with fail
      all_goals exact ret_tmp7 rfl rfl rfl rfl rfl rfl rfl rfl rfl ⟨_, _, _, _, _, _, rfl, rfl⟩
    · obtain ⟨rfl, rfl⟩ : j = 0 ∧ k = 1 := by omega
      obtain rfl := hb rfl
      have e46 : s[off].toNat = 46 := by have := hk46 rfl; omega
      go_wp2_with fail
      go_round
      case rel => exact ⟨1, true, rfl, rfl, rfl, rfl, rfl, rfl, rfl, rfl, rfl, Nat.le_refl _, fun h => absurd h (by decide), by first | rfl | trivial⟩
      case measure => simp [intOf]
end Go.Proofs.YtpajcfkldnbpfaaGreatDoor
