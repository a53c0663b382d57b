/- fmtEFG, without an exponent. ftoa64. FormatFloat. -/
import Derived.Test.YtpajcfkldnbpfaaGreatDoorV38
import Derived.Deep.AppendSrc
import Derived.BigQuiet
import Derived.Test.YtpajcfkldnbpfaaGreatDoorV27
set_option linter.unusedSimpArgs false
set_option linter.unusedVariables false
namespace Go.Proofs.YtpajcfkldnbpfaaGreatDoor
open Go.RowKit
set_option maxRecDepth 100000 in
set_option maxHeartbeats 4000000 in
theorem efg_f (w0 w : World) (sb : Nat) (ds : List UInt8) (ng : Bool) (d : Value) (hB : BufN w0 sb ds 0 d w) (hds : ds.length = 32) (nd : Nat) (dp : Int) (hnd : nd ≤ 20) (hdp : -3 ≤ dp ∧ dp ≤ 6) : Calls Tryz.prog 129 #[d, .bool ng, .slice (some ⟨sb, 0, none⟩) 32 32, .int .i64 dp, .int .i64 nd, .int .i64 nd, .int .u8 103, .bool true] w (EfR w0 sb ds) := by
  have HB := Lib.hid hB
  clear hB
  have hw0 : IntKind.i64.wrap (dp - 1) = dp - 1 := IntWalk.i64_in _ (by omega)
  go_enter Tryz.func129, Tryz.ntmps129
  go_upto_region 3 with fail
  go_cut [45] from 38 to 45 (fun y wx => (∃ b : Bool, y = .bool b) ∧ w = wx)
  case first =>
    as_aux_lemma =>
    go_wp2_with fail
    all_goals
      go_meet
      case rel => exact ⟨⟨_, rfl⟩, by first | rfl | trivial⟩
  case rest =>
  obtain ⟨⟨bb, rfl⟩, rfl⟩ := hcut
  go_upto_if 45 with fail
  go_cut [17] from 46 to 46 (fun y wx => True ∧ w = wx)
  case first =>
    as_aux_lemma =>
    cases bb
    all_goals
      go_wp2_with fail
      go_meet
      case rel => exact ⟨trivial, by first | rfl | trivial⟩
  case rest =>
  obtain ⟨-, rfl⟩ := hcut
  go_upto_region 8 with fail
  go_cut [56] from 50 to 56 (fun y wx => y = .bool false ∧ w = wx)
  case first =>
    as_aux_lemma =>
    have h1 : ¬ dp - 1 < -4 := by omega
    have h2 : ¬ 6 ≤ dp - 1 := by omega
    go_wp2_with fail
    go_meet
    case rel => exact ⟨by simp, by first | rfl | trivial⟩
  case rest =>
  obtain ⟨rfl, rfl⟩ := hcut
  clear hw0
  obtain ⟨P, hP⟩ : ∃ P : Nat, max ((nd : Int) - dp) 0 = (P : Int) := ⟨(max ((nd : Int) - dp) 0).toNat, by omega⟩
  have hP2 : P ≤ 23 := by omega
  go_upto_region 13 with fail
  go_cut [68] from 66 to 68 (fun y wx => (∃ b : Bool, y = .bool b) ∧ w = wx)
  case first =>
    as_aux_lemma =>
    go_wp2_with fail
    go_meet
    case rel => exact ⟨⟨_, rfl⟩, by first | rfl | trivial⟩
  case rest =>
  obtain ⟨⟨b2, rfl⟩, rfl⟩ := hcut
  go_upto_if 68 with fail
  go_cut [5] from 69 to 69 (fun y wx => y = .int .i64 (nd : Int) ∧ w = wx)
  case first =>
    as_aux_lemma =>
    cases b2
    all_goals
      go_wp2_with fail
      go_meet
      case rel => exact ⟨rfl, by first | rfl | trivial⟩
  case rest =>
  obtain ⟨rfl, rfl⟩ := hcut
  go_upto_if 178 with fail
  go_cut [0] from 179 to 181 (fun y wx => BufN w0 sb ds 1 y wx)
  case first =>
    as_aux_lemma =>
    cases ng
    · obtain ⟨t, ht, hb⟩ := HB.out
      go_wp2_with fail
      go_meet
      case rel => exact ⟨t, by omega, hb⟩
    · (obtain ⟨t, ht, oid, cap, sp, rfl, hgr, hst⟩ := HB.out; have HT := Lib.hid ht; have ht5 : t.length ≤ 500 := (by omega); clear ht; go_wp2_with ((first | ((with_reducible refine at_bslice ?_); refine ZS hst ?_; clear hst; intro bx wz hbx hst) | ((with_reducible refine at_append ?_); refine wl_appH hst rfl rfl rfl rfl el213 hgr (by decide) (by decide) rfl rfl (by omega) (by simp only [maxLen]; omega) ?_; clear hst hgr; intro oid' cap' sp' w' hst hgr hno))); go_meet; (case rel => exact ⟨t ++ [45], by (rw [List.length_append]; have := HT.out; simp only [List.length_cons, List.length_nil]; omega), Buf.app (u := [45]) hst hgr rfl rfl⟩))
  case rest =>
  (clear HB; have HB := Lib.hid hcut; clear hcut)
  go_upto_region 55 with fail
  go_cut [183] from 182 to 183 (fun y wx => (∃ b : Bool, y = .bool b ∧ (b = true → 1 ≤ dp)) ∧ wc = wx)
  case first =>
    as_aux_lemma =>
    go_wp2_with fail
    go_meet
    case rel => exact ⟨⟨_, rfl, fun h => by have := of_decide_eq_true h; omega⟩, by first | rfl | trivial⟩
  case rest =>
  obtain ⟨⟨b3, rfl, hb3⟩, rfl⟩ := hcut
  go_upto_if 183 with fail
  go_cut [0, 23, 25] from 184 to 211 (fun y _ _ wx => BufN w0 sb ds 60 y wx)
  case first =>
    as_aux_lemma =>
    cases b3
    · (obtain ⟨t, ht, oid, cap, sp, rfl, hgr, hst⟩ := HB.out; have HT := Lib.hid ht; have ht5 : t.length ≤ 500 := (by omega); clear ht; go_wp2_with ((first | ((with_reducible refine at_bslice ?_); refine ZS hst ?_; clear hst; intro bx wz hbx hst) | ((with_reducible refine at_append ?_); refine wl_appH hst rfl rfl rfl rfl el213 hgr (by decide) (by decide) rfl rfl (by omega) (by simp only [maxLen]; omega) ?_; clear hst hgr; intro oid' cap' sp' w' hst hgr hno))); go_meet; (case rel => exact ⟨t ++ [48], by (rw [List.length_append]; have := HT.out; simp only [List.length_cons, List.length_nil]; omega), Buf.app (u := [48]) hst hgr rfl rfl⟩))
    · have h1 := hb3 rfl
      obtain ⟨m, hm, hm1, hm2⟩ : ∃ m : Nat, min (nd : Int) dp = (m : Int) ∧ m ≤ nd ∧ (m : Int) ≤ dp := ⟨(min (nd : Int) dp).toNat, by omega, by omega, by omega⟩
      obtain ⟨z, hz, hz1⟩ : ∃ z : Nat, dp - (m : Int) = (z : Int) ∧ z ≤ 6 := ⟨(dp - (m : Int)).toNat, by omega, by omega⟩
      go_upto_block 4 with fail
      go_cut [0, 25] from 191 to 199 (fun y _ wx => BufN w0 sb ds 10 y wx)
      case first =>
        as_aux_lemma =>
        go_wp2_with fail
        go_loopw [0, 191] (fun d i wx => ∃ j : Nat, i = .int .i64 (j : Int) ∧ j ≤ m ∧ Hid (BufN w0 sb ds (1 + j) d wx)) (fun _ i _ => m - (intOf i).toNat)
        case atStart => exact ⟨0, rfl, Nat.zero_le _, HB⟩
        case round =>
          obtain ⟨j, rfl, hj, HL⟩ := hrel
          by_cases hjl : (j : Int) < m
          · obtain ⟨t0, ht0, hb0⟩ := HL.out
            have hc := hb0.cell (i := j) (by omega)
            clear hb0
            generalize ds[j] = c at hc
            have hj32 : (j : Int) < 32 := by omega
            (obtain ⟨t, ht, oid, cap, sp, rfl, hgr, hst⟩ := HL.out; have HT := Lib.hid ht; have ht5 : t.length ≤ 500 := (by omega); clear ht)
            go_wp2_with ((first | ((with_reducible refine at_bslice ?_); refine ZS hst ?_; clear hst; intro bx wz hbx hst) | ((with_reducible refine at_append ?_); refine wl_appH hst rfl rfl rfl rfl el213 hgr (by decide) (by decide) rfl rfl (by omega) (by simp only [maxLen]; omega) ?_; clear hst hgr; intro oid' cap' sp' w' hst hgr hno)))
            (go_round; (case rel => exact ⟨j + 1, (by first | rfl | simp), by omega, Lib.hid ⟨t ++ [c], (by (rw [List.length_append]; have := HT.out; simp only [List.length_cons, List.length_nil]; omega)), Buf.app (u := [c]) hst hgr rfl rfl⟩⟩); (case measure => simp [intOf]; omega))
          · obtain ⟨t, ht, hb⟩ := HL.out
            go_wp2_with fail
            go_meet
            case rel => exact ⟨t, by omega, hb⟩
      case rest =>
      (clear HB; have HB := Lib.hid hcut; clear hcut)
      go_upto_block 6 with fail
      go_cut [0] from 203 to 208 (fun y wx => BufN w0 sb ds 20 y wx)
      case first =>
        as_aux_lemma =>
        (go_wp2_with fail; go_loopw [0, 203] (fun d i wx => ∃ j : Nat, i = .int .i64 (j : Int) ∧ j ≤ z ∧ Hid (BufN w0 sb ds (10 + j) d wx)) (fun _ i _ => z - (intOf i).toNat); (case atStart => exact ⟨0, rfl, Nat.zero_le _, HB⟩); (case round => (obtain ⟨j, rfl, hj, HL⟩ := hrel; by_cases hjl : (j : Int) < (z : Nat); (focus ((obtain ⟨t, ht, oid, cap, sp, rfl, hgr, hst⟩ := HL.out; have HT := Lib.hid ht; have ht5 : t.length ≤ 500 := (by omega); clear ht); go_wp2_with ((first | ((with_reducible refine at_bslice ?_); refine ZS hst ?_; clear hst; intro bx wz hbx hst) | ((with_reducible refine at_append ?_); refine wl_appH hst rfl rfl rfl rfl el213 hgr (by decide) (by decide) rfl rfl (by omega) (by simp only [maxLen]; omega) ?_; clear hst hgr; intro oid' cap' sp' w' hst hgr hno))); (go_round; (case rel => exact ⟨j + 1, (by first | rfl | simp), by omega, Lib.hid ⟨t ++ [48], (by (rw [List.length_append]; have := HT.out; simp only [List.length_cons, List.length_nil]; omega)), Buf.app (u := [48]) hst hgr rfl rfl⟩⟩); (case measure => simp [intOf]; omega)))); (obtain ⟨t, ht, hb⟩ := HL.out; go_wp2_with fail; go_meet; (case rel => exact ⟨t, by omega, hb⟩)))))
      case rest =>
      (clear HB; have HB := Lib.hid hcut; clear hcut)
      obtain ⟨t, ht, hb⟩ := HB.out
      go_wp2_with fail
      go_meet
      case rel => exact ⟨t, by omega, hb⟩
  case rest =>
  (clear HB; have HB := Lib.hid hcut; clear hcut)
  clear hb3
  go_upto_region 67 with fail
  go_cut [213] from 212 to 213 (fun y wx => (∃ b : Bool, y = .bool b ∧ (b = true → 1 ≤ P)) ∧ wc = wx)
  case first =>
    as_aux_lemma =>
    go_wp2_with fail
    go_meet
    case rel => exact ⟨⟨_, rfl, fun h => by have := of_decide_eq_true h; omega⟩, by first | rfl | trivial⟩
  case rest =>
  obtain ⟨⟨b4, rfl, hb4⟩, rfl⟩ := hcut
  go_upto_if 213 with fail
  go_cut [0, 26, 27, 28, 29, 30] from 214 to 266 (fun y _ _ _ _ _ wx => BufN w0 sb ds 200 y wx)
  case first =>
    as_aux_lemma =>
    cases b4
    · obtain ⟨t, ht, hb⟩ := HB.out
      go_wp2_with fail
      go_meet
      case rel => exact ⟨t, by omega, hb⟩
    · have h1 := hb4 rfl
      clear hb4
      go_upto_region 68 with fail
      go_cut [0] from 214 to 216 (fun y wx => BufN w0 sb ds 61 y wx)
      case first =>
        as_aux_lemma =>
        (obtain ⟨t, ht, oid, cap, sp, rfl, hgr, hst⟩ := HB.out; have HT := Lib.hid ht; have ht5 : t.length ≤ 500 := (by omega); clear ht; go_wp2_with ((first | ((with_reducible refine at_bslice ?_); refine ZS hst ?_; clear hst; intro bx wz hbx hst) | ((with_reducible refine at_append ?_); refine wl_appH hst rfl rfl rfl rfl el213 hgr (by decide) (by decide) rfl rfl (by omega) (by simp only [maxLen]; omega) ?_; clear hst hgr; intro oid' cap' sp' w' hst hgr hno))); go_meet; (case rel => exact ⟨t ++ [46], by (rw [List.length_append]; have := HT.out; simp only [List.length_cons, List.length_nil]; omega), Buf.app (u := [46]) hst hgr rfl rfl⟩))
      case rest =>
      (clear HB; have HB := Lib.hid hcut; clear hcut)
      obtain ⟨L, hL, hL3⟩ : ∃ L : Nat, min (P : Int) (max 0 (-dp)) = (L : Int) ∧ L ≤ 3 := ⟨(min (P : Int) (max 0 (-dp))).toNat, by omega, by omega⟩
      obtain ⟨O, hO⟩ : ∃ O : Nat, dp + (L : Int) = (O : Int) := ⟨(dp + (L : Int)).toNat, by omega⟩
      obtain ⟨M, hM, hM2⟩ : ∃ M : Nat, min ((P : Int) - L) (max 0 ((nd : Int) - O)) = (M : Int) ∧ (1 ≤ M → O + M ≤ nd) := ⟨(min ((P : Int) - L) (max 0 ((nd : Int) - O))).toNat, by omega, by omega⟩
      obtain ⟨Z, hZ, hZ2⟩ : ∃ Z : Nat, max 0 ((P : Int) - L - M) = (Z : Int) ∧ Z ≤ 30 := ⟨(max 0 ((P : Int) - L - M)).toNat, by omega, by omega⟩
      have hM3 : M ≤ 30 := by omega
      clear hP
      go_upto_block 8 with fail
      go_cut [0] from 240 to 245 (fun y wx => BufN w0 sb ds 70 y wx)
      case first =>
        as_aux_lemma =>
        (go_wp2_with fail; go_loopw [0, 240] (fun d i wx => ∃ j : Nat, i = .int .i64 (j : Int) ∧ j ≤ L ∧ Hid (BufN w0 sb ds (61 + j) d wx)) (fun _ i _ => L - (intOf i).toNat); (case atStart => exact ⟨0, rfl, Nat.zero_le _, HB⟩); (case round => (obtain ⟨j, rfl, hj, HL⟩ := hrel; by_cases hjl : (j : Int) < (L : Nat); (focus ((obtain ⟨t, ht, oid, cap, sp, rfl, hgr, hst⟩ := HL.out; have HT := Lib.hid ht; have ht5 : t.length ≤ 500 := (by omega); clear ht); go_wp2_with ((first | ((with_reducible refine at_bslice ?_); refine ZS hst ?_; clear hst; intro bx wz hbx hst) | ((with_reducible refine at_append ?_); refine wl_appH hst rfl rfl rfl rfl el213 hgr (by decide) (by decide) rfl rfl (by omega) (by simp only [maxLen]; omega) ?_; clear hst hgr; intro oid' cap' sp' w' hst hgr hno))); (go_round; (case rel => exact ⟨j + 1, (by first | rfl | simp), by omega, Lib.hid ⟨t ++ [48], (by (rw [List.length_append]; have := HT.out; simp only [List.length_cons, List.length_nil]; omega)), Buf.app (u := [48]) hst hgr rfl rfl⟩⟩); (case measure => simp [intOf]; omega)))); (obtain ⟨t, ht, hb⟩ := HL.out; go_wp2_with fail; go_meet; (case rel => exact ⟨t, by omega, hb⟩)))))
      case rest =>
      (clear HB; have HB := Lib.hid hcut; clear hcut)
      go_upto_block 10 with fail
      go_cut [0, 30] from 247 to 259 (fun y _ wx => BufN w0 sb ds 101 y wx)
      case first =>
        as_aux_lemma =>
        go_wp2_with fail
        go_loopw [0, 247] (fun d i wx => ∃ j : Nat, i = .int .i64 (j : Int) ∧ j ≤ M ∧ Hid (BufN w0 sb ds (70 + j) d wx)) (fun _ i _ => M - (intOf i).toNat)
        case atStart => exact ⟨0, rfl, Nat.zero_le _, HB⟩
        case round =>
          obtain ⟨j, rfl, hj, HL⟩ := hrel
          by_cases hjl : (j : Int) < M
          · obtain ⟨t0, ht0, hb0⟩ := HL.out
            have hc := hb0.cell (i := O + j) (by omega)
            clear hb0
            generalize ds[O + j] = c at hc
            have hj32 : (O : Int) + (j : Int) < 32 := by omega
            (obtain ⟨t, ht, oid, cap, sp, rfl, hgr, hst⟩ := HL.out; have HT := Lib.hid ht; have ht5 : t.length ≤ 500 := (by omega); clear ht)
            go_wp2_with ((first | ((with_reducible refine at_bslice ?_); refine ZS hst ?_; clear hst; intro bx wz hbx hst) | ((with_reducible refine at_append ?_); refine wl_appH hst rfl rfl rfl rfl el213 hgr (by decide) (by decide) rfl rfl (by omega) (by simp only [maxLen]; omega) ?_; clear hst hgr; intro oid' cap' sp' w' hst hgr hno)))
            (go_round; (case rel => exact ⟨j + 1, (by first | rfl | simp), by omega, Lib.hid ⟨t ++ [c], (by (rw [List.length_append]; have := HT.out; simp only [List.length_cons, List.length_nil]; omega)), Buf.app (u := [c]) hst hgr rfl rfl⟩⟩); (case measure => simp [intOf]; omega))
          · obtain ⟨t, ht, hb⟩ := HL.out
            go_wp2_with fail
            go_meet
            case rel => exact ⟨t, by omega, hb⟩
      case rest =>
      (clear HB; have HB := Lib.hid hcut; clear hcut)
      go_upto_block 12 with fail
      go_cut [0] from 261 to 266 (fun y wx => BufN w0 sb ds 140 y wx)
      case first =>
        as_aux_lemma =>
        (go_wp2_with fail; go_loopw [0, 261] (fun d i wx => ∃ j : Nat, i = .int .i64 (j : Int) ∧ j ≤ Z ∧ Hid (BufN w0 sb ds (101 + j) d wx)) (fun _ i _ => Z - (intOf i).toNat); (case atStart => exact ⟨0, rfl, Nat.zero_le _, HB⟩); (case round => (obtain ⟨j, rfl, hj, HL⟩ := hrel; by_cases hjl : (j : Int) < (Z : Nat); (focus ((obtain ⟨t, ht, oid, cap, sp, rfl, hgr, hst⟩ := HL.out; have HT := Lib.hid ht; have ht5 : t.length ≤ 500 := (by omega); clear ht); go_wp2_with ((first | ((with_reducible refine at_bslice ?_); refine ZS hst ?_; clear hst; intro bx wz hbx hst) | ((with_reducible refine at_append ?_); refine wl_appH hst rfl rfl rfl rfl el213 hgr (by decide) (by decide) rfl rfl (by omega) (by simp only [maxLen]; omega) ?_; clear hst hgr; intro oid' cap' sp' w' hst hgr hno))); (go_round; (case rel => exact ⟨j + 1, (by first | rfl | simp), by omega, Lib.hid ⟨t ++ [48], (by (rw [List.length_append]; have := HT.out; simp only [List.length_cons, List.length_nil]; omega)), Buf.app (u := [48]) hst hgr rfl rfl⟩⟩); (case measure => simp [intOf]; omega)))); (obtain ⟨t, ht, hb⟩ := HL.out; go_wp2_with fail; go_meet; (case rel => exact ⟨t, by omega, hb⟩)))))
      case rest =>
      (clear HB; have HB := Lib.hid hcut; clear hcut)
      obtain ⟨t, ht, hb⟩ := HB.out
      go_wp2_with fail
      go_meet
      case rel => exact ⟨t, by omega, hb⟩
  case rest =>
  (clear HB; have HB := Lib.hid hcut; clear hcut)
  obtain ⟨t, ht, hb⟩ := HB.out
  go_wp2_with fail
  exact ret_tmp rfl rfl rfl ⟨_, rfl, t, by omega, hb⟩
end Go.Proofs.YtpajcfkldnbpfaaGreatDoor
namespace Go.Proofs.YtpajcfkldnbpfaaGreatDoor
open Go.RowKit
theorem byteCells_bV (s : ByteArray) : byteCells s = bV s.data.toList := rfl
theorem run_app_str {w0 w : World} {g cap : Nat} {t : List UInt8} {sp : List Value} {ty : TypeId} (s : ByteArray) (hst : St w0.heap.size ⟨[], []⟩ w0 w [(some g, bV t ++ sp, 5)]) (hgr : Gr 1 (some g) t.length cap (bV t) sp) (hroom : t.length + s.size ≤ cap) :
    ∃ sp' w', (Builtin.append_ #[213, 9] ty #[.slice (some ⟨g, 0, none⟩) t.length cap, .string s]).run Tryz.prog w = .ok (.slice (some ⟨g, 0, none⟩) (t.length + s.size) cap) w' ∧ St w0.heap.size ⟨[], []⟩ w0 w' [(some g, bV (t ++ s.data.toList) ++ sp', 5)] ∧ Gr 1 (some g) (t.length + s.size) cap (bV (t ++ s.data.toList)) sp' := by
  obtain ⟨ht, I, z, hI, hz, hs1, hs2, hzs⟩ := elOf_spec el213
  have hb := hst.heap (b := g) (by (repeat' (first | exact List.Mem.head _ | apply List.Mem.tail)); done)
  have hsz : s.data.toList.length = s.size := by simp
  have hall := hgr.all
  rw [bV_len] at hall
  have hfit : t.length * 1 + (byteCells s).length ≤ (bV t ++ sp).toArray.size := by
    simp only [List.size_toArray, List.length_append, bV_len, byteCells_length]
    omega
  have hsto := run_storeCells_at Tryz.prog g (t.length * 1) 5 (byteCells s) 0 (bV t ++ sp).toArray w hb (by simpa using hfit) (by
    intro u hu
    obtain ⟨_, _, rfl⟩ := List.mem_map.1 hu
    rfl)
  simp only [Nat.add_zero] at hsto
  have hset := hst.set (i := 0) rfl (bV (t ++ s.data.toList) ++ sp.drop s.size)
  refine ⟨sp.drop s.size, _, ?_, hset, ⟨by simp [bV_len], by simp only [bV_len, List.length_append, List.length_drop, hsz]; omega, hroom, hgr.max, fun h => by cases h⟩⟩
  have e1 : (bV t ++ sp).take t.length ++ byteCells s ++ (bV t ++ sp).drop (t.length + (byteCells s).length) = bV (t ++ s.data.toList) ++ sp.drop s.size := by
    have h1 : (bV t ++ sp).take t.length = bV t := by rw [← bV_len t]; exact List.take_left
    have h2 : (bV t ++ sp).drop (t.length + (byteCells s).length) = sp.drop s.size := by rw [byteCells_length, ← bV_len t, ← List.drop_drop, List.drop_left]
    rw [h1, h2, byteCells_bV, bV_app]
  have hsto2 : (storeCells ⟨g, t.length, none⟩ (byteCells s)).run Tryz.prog w = .ok () (w.setRow g (bV (t ++ s.data.toList) ++ sp.drop s.size).toArray) := by
    have h := hsto
    rw [Nat.mul_one] at h
    rw [← e1]
    exact h
  have hf := firstCells_string (P := Tryz.prog) s w
  have hu9 : Tryz.prog.underlying 9 = some .string := Tryz.underlying9
  clear hsto
  unfold Builtin.append_
  simp [run_underlying ht, run_underlying hu9, sizeOf, typeInfo, hI, Builtin.lenOf, hroom, hf, Addr.add_lit, hsto2, hs1]
theorem wl_appS {ops : Array Oper} {rest : List Oper} {Q : Exit → Act → World → Prop} {w0 w : World} {a : Act} {o : Oper} {g cap : Nat} {t : List UInt8} {sp : List Value} {x y : Operand} {s : ByteArray} (hst : St w0.heap.size ⟨[], []⟩ w0 w [(some g, bV t ++ sp, 5)]) (hg : o.guard = none) (ho : o.op = .call { callee := .builtin .append, args := #[x, y], argTypes := #[213, 9] })
    (hx : a.eval x = .slice (some ⟨g, 0, none⟩) t.length cap) (hy : a.eval y = .string s) (hgr : Gr 1 (some g) t.length cap (bV t) sp) (hroom : t.length + s.size ≤ cap)
    (h : ∀ sp' w', St w0.heap.size ⟨[], []⟩ w0 w' [(some g, bV (t ++ s.data.toList) ++ sp', 5)] → Gr 1 (some g) (t.length + s.size) cap (bV (t ++ s.data.toList)) sp' → wpList Tryz.prog ops Q rest (a.put o.dst (.slice (some ⟨g, 0, none⟩) (t.length + s.size) cap)) w') : WL Tryz.prog ops Q (o :: rest) a w := by
  obtain ⟨sp', w', hr, h2, h3⟩ := run_app_str (ty := o.type) s hst hgr hroom
  refine wl_val hg ?_ (h sp' w' h2 h3)
  simp [execOp, ho, resolve, invoke, builtin, hx, hy, hr]
theorem at_appS {P : Program} {ops : Array Oper} {rest : List Oper} {Q : Exit → Act → World → Prop} {a : Act} {w : World} {d : Option Tmp} {x y : Operand} {ty : TypeId} {ps : String} {af : Array Edge} {g : Option (Nat × Bool)} (h : WL P ops Q (⟨d, .call { callee := .builtin .append, args := #[x, y], argTypes := #[213, 9] }, ty, ps, af, g⟩ :: rest) a w) : wpList P ops Q (⟨d, .call { callee := .builtin .append, args := #[x, y], argTypes := #[213, 9] }, ty, ps, af, g⟩ :: rest) a w := h
theorem and_mask64 (k : IntKind) (hk : k = .i64 ∨ k = .u64) (x : Int) (m : Nat) (hm : m < 4611686018427387904) : 0 ≤ bits BinOp.and k x (m : Int) ∧ bits BinOp.and k x (m : Int) ≤ m := by
  have h : ∀ y : BitVec 64, (y &&& BitVec.ofInt 64 (m : Int)).toNat ≤ m := fun y => by
    rw [BitVec.toNat_and, BitVec.ofInt_natCast, BitVec.toNat_ofNat, Nat.mod_eq_of_lt (by omega)]
    exact Nat.and_le_right
  rcases hk with rfl | rfl
  · have h1 := h (BitVec.ofInt 64 x)
    show 0 ≤ IntKind.i64.wrap ((BitVec.ofInt 64 x &&& BitVec.ofInt 64 (m : Int)).toNat : Int) ∧ IntKind.i64.wrap ((BitVec.ofInt 64 x &&& BitVec.ofInt 64 (m : Int)).toNat : Int) ≤ m
    rw [IntWalk.i64_in _ (by omega)]
    omega
  · have h1 := h (BitVec.ofInt 64 x)
    show 0 ≤ IntKind.u64.wrap ((BitVec.ofInt 64 x &&& BitVec.ofInt 64 (m : Int)).toNat : Int) ∧ IntKind.u64.wrap ((BitVec.ofInt 64 x &&& BitVec.ofInt 64 (m : Int)).toNat : Int) ≤ m
    rw [IntWalk.u64_in _ (by omega)]
    omega
theorem run_bits126 (n : Nat) (w : World) : (callFunc 126 #[.float .f64 n]).run Tryz.prog w = .ok (.value (.int .u64 n)) w := by
  rw [run_callFunc_extern Tryz.func126 (by rfl) (by rfl) (by rfl) (by rfl)]
  rfl
def posInf : Nat := 9218868437227405312
def negInf : Nat := 18442240474082181120
def FtQ (f : Nat) (t : List UInt8) : Prop := (f = posInf → t = [43, 73, 110, 102]) ∧ (f = negInf → t = [45, 73, 110, 102])
def FtR (w0 : World) (f : Nat) (e : Ending) (w' : World) : Prop := ∃ (t : List UInt8) (oid : Option Nat) (cap : Nat) (sp : List Value), FtQ f t ∧ t.length ≤ 600 ∧ e = .returned (.slice (slP oid) t.length cap) ∧ Gr 1 oid t.length cap (bV t) sp ∧ St w0.heap.size ⟨[], []⟩ w0 w' [(oid, bV t ++ sp, 5)]
theorem Buf.drew {w0 w : World} {sb : Nat} {ds t : List UInt8} {d : Value} (h : Buf w0 sb ds t d w) : Buf w0 sb ds t d w.drew := by
  obtain ⟨oid, cap, sp, h1, h2, h3⟩ := h
  exact ⟨oid, cap, sp, h1, h2, h3.drew⟩
theorem St.drewN {B : Nat} {Ts : Ch} {w0 w : World} {L : Rws} (h : St B Ts w0 w L) : ∀ n, St B Ts w0 (w.drewN n) L
  | 0 => h
  | n + 1 => by rw [World.drewN]; exact (St.drewN h n).drew
def EfZ (w0 : World) (e : Ending) (w' : World) : Prop := ∃ (t : List UInt8) (oid : Option Nat) (cap : Nat) (sp : List Value), t.length ≤ 10 ∧ e = .returned (.slice (slP oid) t.length cap) ∧ Gr 1 oid t.length cap (bV t) sp ∧ St w0.heap.size ⟨[], []⟩ w0 w' [(oid, bV t ++ sp, 5)]
theorem bV_snoc {w0 w : World} {t u : List UInt8} {oid : Option Nat} {cap m : Nat} {sp news : List Value} (hst : St w0.heap.size ⟨[], []⟩ w0 w [(oid, (bV t ++ news) ++ sp, 5)]) (hgr : Gr 1 oid (t.length + m) cap (bV t ++ news) sp) (hn : news = bV u) (hm : m = u.length) : Gr 1 oid (t ++ u).length cap (bV (t ++ u)) sp ∧ St w0.heap.size ⟨[], []⟩ w0 w [(oid, bV (t ++ u) ++ sp, 5)] := by
  subst hn
  subst hm
  rw [bV_app] at hst hgr
  rw [← List.length_append] at hgr
  exact ⟨hgr, hst⟩
set_option maxRecDepth 100000 in
set_option maxHeartbeats 1000000 in
theorem efg_zero0 (w0 w : World) (ng : Bool) (g c : Nat) (sp : List Value) (hst : St w0.heap.size ⟨[], []⟩ w0 w [(some g, sp, 5)]) (hgr : Gr 1 (some g) 0 c [] sp) : Calls Tryz.prog 129 #[.slice (some ⟨g, 0, none⟩) 0 c, .bool ng, .slice none 0 0, .int .i64 0, .int .i64 0, .int .i64 (-1), .int .u8 103, .bool true] w (EfZ w0) := by
  replace hst : St w0.heap.size ⟨[], []⟩ w0 w [(some g, bV [] ++ sp, 5)] := hst
  replace hgr : Gr 1 (some g) 0 c (bV []) sp := hgr
  rw [show (Value.slice (some ⟨g, 0, none⟩) 0 c) = .slice (slP (some g)) 0 c from rfl]
  generalize some g = oid at *
  cases ng
  · go_enter Tryz.func129, Tryz.ntmps129
    go_wp2_with ((first | ((with_reducible refine at_bslice ?_); refine ZS hst ?_; clear hst; intro bx wz hbx hst) | ((with_reducible refine at_append ?_); refine wl_appH hst rfl rfl rfl rfl el213 hgr (by decide) (by decide) rfl rfl (by omega) (by simp only [maxLen]; omega) ?_; clear hst hgr; intro oid' cap' sp' w' hst hgr hno)))
    obtain ⟨h1, h2⟩ := bV_snoc (t := []) (u := [48]) (m := 1) hst hgr rfl rfl
    exact ret_tmp rfl rfl rfl ⟨_, _, _, _, by decide, rfl, h1, h2⟩
  · go_enter Tryz.func129, Tryz.ntmps129
    go_wp2_with ((first | ((with_reducible refine at_bslice ?_); refine ZS hst ?_; clear hst; intro bx wz hbx hst) | ((with_reducible refine at_append ?_); refine wl_appH hst rfl rfl rfl rfl el213 hgr (by decide) (by decide) rfl rfl (by omega) (by simp only [maxLen]; omega) ?_; clear hst hgr; intro oid' cap' sp' w' hst hgr hno)))
    have hst2 := hst
    have hgr2 := hgr
    rw [List.append_assoc (bV [])] at hst2 hgr2
    obtain ⟨h1, h2⟩ := bV_snoc (t := []) (u := [45, 48]) (m := 2) hst2 hgr2 rfl rfl
    exact ret_tmp rfl rfl rfl ⟨_, _, _, _, by decide, rfl, h1, h2⟩
set_option maxRecDepth 100000 in
set_option maxHeartbeats 4000000 in
theorem ftoa_any (w0 w : World) (f g : Nat) (sp : List Value) (hst : St w0.heap.size ⟨[], []⟩ w0 w [(some g, sp, 5)]) (hgr : Gr 1 (some g) 0 24 [] sp) (hT : Tabs w0) : Calls Tryz.prog 94 #[.slice (some ⟨g, 0, none⟩) 0 24, .float .f64 f, .int .u8 103, .int .i64 (-1)] w (FtR w0 f) := by
  have h126 := fun n w => run_bits126 n w
  obtain ⟨E, hE, hE0⟩ : ∃ E : Int, bits BinOp.and IntKind.i64 (wrap64 ((f : Int) / 4503599627370496)) 2047 = E ∧ 0 ≤ E ∧ E ≤ 2047 := ⟨_, rfl, and_mask64 .i64 (.inl rfl) _ 2047 (by decide)⟩
  obtain ⟨M, hM, hM0⟩ : ∃ M : Int, bits BinOp.and IntKind.u64 (f : Int) 4503599627370495 = M ∧ 0 ≤ M ∧ M ≤ 4503599627370495 := ⟨_, rfl, and_mask64 .u64 (.inr rfl) _ 4503599627370495 (by decide)⟩
  have hpos : f = posInf → E = 2047 ∧ M = 0 := fun h => by subst h; rw [← hE, ← hM]; decide +kernel
  have hneg : f = negInf → E = 2047 ∧ M = 0 := fun h => by subst h; rw [← hE, ← hM]; decide +kernel
  have HI := Lib.hid (And.intro hpos (And.intro hneg (And.intro hst (And.intro hgr hT))))
  clear hpos hneg hst hgr hT
  go_enter Tryz.func94, Tryz.ntmps94
  go_upto_region 14 with fail
  go_quiet (fail)
  go_upto_if 67 with fail
  have hst := St.drewN HI.out.2.2.1 nq
  have hgr := HI.out.2.2.2.1
  have HP := Lib.hid (And.intro HI.out.1 HI.out.2.1)
  have HT := Lib.hid HI.out.2.2.2.2
  clear HI
  generalize w.drewN nq = wq at *
  by_cases hE7 : E = 2047
  · by_cases hM0' : M = 0
    · by_cases hn : (f : Int) / 9223372036854775808 = 0
      · as_aux_lemma =>
        (go_wp2_with ((with_reducible refine at_appS ?_); refine wl_appS (t := []) (s := ⟨([43, 73, 110, 102] : List UInt8).toArray⟩) hst rfl rfl rfl rfl hgr (by decide) ?_; clear hst hgr; intro sp' w' hst hgr); refine ret_tmp rfl rfl rfl ⟨[43, 73, 110, 102], some g, 24, sp', ?_, by decide, rfl, hgr, hst⟩)
        refine ⟨fun _ => rfl, fun h => ?_⟩
        subst h
        exact absurd hn (by decide +kernel)
      · as_aux_lemma =>
        (go_wp2_with ((with_reducible refine at_appS ?_); refine wl_appS (t := []) (s := ⟨([45, 73, 110, 102] : List UInt8).toArray⟩) hst rfl rfl rfl rfl hgr (by decide) ?_; clear hst hgr; intro sp' w' hst hgr); refine ret_tmp rfl rfl rfl ⟨[45, 73, 110, 102], some g, 24, sp', ?_, by decide, rfl, hgr, hst⟩)
        refine ⟨fun h => ?_, fun _ => rfl⟩
        subst h
        exact absurd (show ((posInf : Nat) : Int) / 9223372036854775808 = 0 by decide +kernel) hn
    · as_aux_lemma =>
      (go_wp2_with ((with_reducible refine at_appS ?_); refine wl_appS (t := []) (s := ⟨([78, 97, 78] : List UInt8).toArray⟩) hst rfl rfl rfl rfl hgr (by decide) ?_; clear hst hgr; intro sp' w' hst hgr); refine ret_tmp rfl rfl rfl ⟨[78, 97, 78], some g, 24, sp', ?_, by decide, rfl, hgr, hst⟩)
      exact ⟨fun h => absurd (HP.out.1 h).2 hM0', fun h => absurd (HP.out.2 h).2 hM0'⟩
  · have hQ : ∀ t, FtQ f t := fun t => ⟨fun h => absurd (HP.out.1 h).1 hE7, fun h => absurd (HP.out.2 h).1 hE7⟩
    have HQ := Lib.hid hQ
    clear hQ HP
    have hE2 : E < 2047 := by omega
    obtain ⟨mn, rfl⟩ : ∃ mn : Nat, M = mn := ⟨M.toNat, by omega⟩
    have hor : bits BinOp.or IntKind.u64 (mn : Int) 4503599627370496 = ((mn ||| 4503599627370496 : Nat) : Int) := u64_or_nat mn 4503599627370496 (by omega) (by decide)
    have hor2 : mn ||| 4503599627370496 < 9007199254740992 := Nat.or_lt_two_pow (n := 53) (by omega) (by decide)
    go_upto_region 22 with fail
    go_cut [78] from 77 to 78 (fun y wx => (∃ b : Bool, y = .bool b ∧ (b = true → E = 0) ∧ (b = false → 1 ≤ E)) ∧ wq = wx)
    case first =>
      as_aux_lemma =>
      go_wp2_with fail
      go_meet
      case rel => exact ⟨⟨_, rfl, fun h => by simpa using h, fun h => by simp at h; omega⟩, by first | rfl | trivial⟩
    case rest =>
    obtain ⟨⟨b, rfl, hb1, hb2⟩, rfl⟩ := hcut
    go_upto_if 78 with fail
    go_cut [14, 15, 67] from 79 to 84 (fun y z _ wx => (∃ x : Int, y = .int .i64 x ∧ 1 ≤ x ∧ x ≤ 2046) ∧ (∃ mt : Nat, z = .int .u64 mt ∧ mt < 9007199254740992) ∧ wq = wx)
    case first =>
      as_aux_lemma =>
      cases b
      · have HB2 := Lib.hid hb2
        clear hb1 hb2
        go_wp2_with fail
        go_meet
        case rel =>
          have h9 := HB2.out (by simp)
          exact ⟨⟨_, rfl, by omega, by omega⟩, ⟨_, rfl, hor2⟩, by first | rfl | trivial⟩
      · have HB2 := Lib.hid hb1
        clear hb1 hb2
        go_wp2_with fail
        go_meet
        case rel =>
          have h9 := HB2.out (by simp)
          exact ⟨⟨_, rfl, by omega, by omega⟩, ⟨_, rfl, by omega⟩, by first | rfl | trivial⟩
    case rest =>
    obtain ⟨⟨x, rfl, hx1, hx2⟩, ⟨mt, rfl, hmt⟩, rfl⟩ := hcut
    clear hor hor2 hb1 hb2
    go_upto_region 30 with fail
    by_cases h0 : mt = 0
    · subst h0
      as_aux_lemma =>
      go_wp2_with fail
      refine (efg_zero0 w0 wq _ g 24 sp hst hgr).mono ?_
      rintro e w3 ⟨t, oid, cap, sp', h1, rfl, hgr, hst⟩
      go_wp2_with fail
      exact ret_tmp rfl rfl rfl ⟨t, oid, cap, sp', HQ.out t, by omega, rfl, hgr, hst⟩
    · obtain ⟨hb1, hb2, hb3, hb4⟩ := bitLen_spec mt (by omega) (by omega)
      have hb5 : Lib.bitLen mt ≤ 53 := Lib.bitLen_le mt 53 (by decide) hmt
      have HL := Lib.hid (Tryz.bits_Len64 (mt : Int) · (by omega) (by omega))
      go_wp2_with ((first | ((with_reducible refine at_load ?_); first | refine X1 hst ?_ | refine XW hst ?_) | ((with_reducible refine at_store ?_); (first | refine Y1 hst ?_ | refine YW hst ?_); clear hst; intro w hst) | ((first | ((with_reducible refine at_alloc ?_); refine ZP hst ?_) | ((with_reducible refine at_box ?_); refine ZP hst ?_) | ((with_reducible refine at_bslice ?_); refine ZS hst ?_)); clear hst; (first | ((fail_if_success have := b0); intro b0 w hb0 hst) | ((fail_if_success have := b1); intro b1 w hb1 hst) | ((fail_if_success have := b2); intro b2 w hb2 hst) | ((fail_if_success have := b3); intro b3 w hb3 hst) | ((fail_if_success have := b4); intro b4 w hb4 hst) | ((fail_if_success have := b5); intro b5 w hb5 hst) | ((fail_if_success have := b6); intro b6 w hb6 hst) | (intro b7 w hb7 hst)))))
      refine (HL.out _).mono ?_
      rintro e w3 ⟨rfl, rfl⟩
      rw [Int.toNat_natCast]
      have hb6 : (64 : Int) - (Lib.bitLen mt : Int) = ((64 - Lib.bitLen mt : Nat) : Int) := by omega
      have hm1 : 9223372036854775808 ≤ mt * 2 ^ (64 - Lib.bitLen mt) ∧ mt * 2 ^ (64 - Lib.bitLen mt) < 18446744073709551616 := by
        have e1 : (2 : Nat) ^ (Lib.bitLen mt - 1) * 2 ^ (64 - Lib.bitLen mt) = 9223372036854775808 := by rw [← Nat.pow_add, show Lib.bitLen mt - 1 + (64 - Lib.bitLen mt) = 63 by omega]
        have e2 : (2 : Nat) ^ Lib.bitLen mt * 2 ^ (64 - Lib.bitLen mt) = 18446744073709551616 := by rw [← Nat.pow_add, show Lib.bitLen mt + (64 - Lib.bitLen mt) = 64 by omega]
        refine ⟨?_, ?_⟩
        · rw [← e1]; exact Nat.mul_le_mul_right _ hb3
        · rw [← e2]; exact Nat.mul_lt_mul_of_pos_right hb4 (Nat.pow_pos (by decide))
      obtain ⟨sh, hsh, hsh1, hsh2⟩ : ∃ sh, 64 - Lib.bitLen mt = sh ∧ 11 ≤ sh ∧ sh ≤ 63 := ⟨_, rfl, by omega, by omega⟩
      rw [hsh] at hb6 hm1
      obtain ⟨m, hm⟩ : ∃ m : Nat, m = mt * 2 ^ sh := ⟨_, rfl⟩
      have hw : IntKind.u64.wrap ((mt : Int) * 2 ^ sh) = (m : Int) := by
        rw [hm, IntWalk.u64_in _ (by have : ((mt * 2 ^ sh : Nat) : Int) = (mt : Int) * 2 ^ sh := by push_cast; rfl
                                     omega)]
        push_cast
        rfl
      rw [← hm] at hm1
      clear hb1 hb2 hb3 hb4 hb5 HL hsh hm
      generalize (Lib.bitLen mt : Int) = bl at *
      go_wp2_with fail
      refine (short_any m _ hm1 (by omega) _ (HT.out.below hst.kp.below)).mono ?_
      rintro e w4 ⟨d, q, ⟨hd1, hd2⟩, hq, rfl, hb⟩
      replace hst := hst.below hb
      clear hb hw hb6 hm1
      have hst2 : St w0.heap.size ⟨[], []⟩ w0 w4 [(some g, bV [] ++ sp, 5), (some b0, bV (List.replicate 32 0), 265)] := hst.perm (List.Perm.swap _ _ _)
      have HB := Lib.hid (show Buf w0 b0 (List.replicate 32 0) [] (.slice (some ⟨g, 0, none⟩) 0 24) w4 from ⟨some g, 24, sp, rfl, hgr, hst2⟩)
      clear hst2 hst
      have hal : Tryz.prog.arrayLen 265 = 32 := by kernel_rfl
      have hel : Tryz.prog.elem 265 = 5 := by kernel_rfl
      have hsl : ∀ W, (Instr.sliceAt 265 (.pointer (some ⟨b0, 0, none⟩)) none none none).run Tryz.prog W = .ok (.slice (some ⟨b0, 0, none⟩) 32 32) W := fun W => by
        simp [Instr.sliceAt, run_underlying Tryz.underlying265, hal, Instr.sureAddr, Instr.sliceBounds, add_lit]
      go_upto_region 38 with fail
      refine wp_plan (fun _ => True) [0, 1, 2, 3, 6, 7, 8, 9, 10] (.q 0 (.q 1 (.q 2 (.q 3 (.e 4 true (.e 5 true (.q 6 (.q 7 (.q 8 (.q 9 (.q 10 (.fin)))))))))))) mixed (by kernel_rfl) (by kernel_rfl) (by kernel_rfl) (fun d v c a w h => by cases d <;> exact h) trivial ?_
      replace HB := Lib.hid HB.out.drew
      repeat ((refine AQ ?_); (refine QV ?_; go_frame))
      refine at_e (by simp only [List.getElem?_toArray, List.getElem?_cons_succ, List.getElem?_cons_zero]; rfl) rfl ?_
      refine e_call (by go_simp <;> first | rfl | exact ⟨⟨rfl, rfl⟩, rfl⟩ | exact ⟨⟨rfl, rfl⟩, rfl, rfl⟩ | exact ⟨rfl, rfl⟩) (Tryz.internal_strconv_numDigits d hd1 hd2 _ (HT.out.below HB.out.below).pow10) ?_
      rintro e w5 ⟨rfl, rfl⟩
      refine ⟨_, rfl, fun _ => trivial, ?_⟩
      go_frame
      repeat ((refine AQ ?_); (refine QV ?_; go_frame))
      refine at_e (by simp only [List.getElem?_toArray, List.getElem?_cons_succ, List.getElem?_cons_zero]; rfl) rfl ?_
      refine e_call (by go_simp <;> first | rfl | exact ⟨⟨rfl, rfl⟩, rfl⟩ | exact ⟨⟨rfl, rfl⟩, rfl, rfl⟩ | exact ⟨rfl, rfl⟩) (setDig_any w0 _ b0 (List.replicate 32 0) [] _ HB.out (by simp) d q hd1 hd2 hq) ?_
      rintro e w5 ⟨ds, dp, nz, hds, hnz, hdp, rfl, hB⟩
      clear HB
      have HB := Lib.hid (show BufN w0 b0 ds 0 _ w5 from ⟨[], Nat.le_refl _, hB⟩)
      clear hB
      refine ⟨_, rfl, fun _ => trivial, ?_⟩
      go_frame
      repeat ((refine AQ ?_); (refine QV ?_; go_frame))
      unfold wpP
      go_wp2_with fail
      have hcall : Calls Tryz.prog 129 #[.slice (some ⟨g, 0, none⟩) 0 24, .bool ((f : Int) / 9223372036854775808 != 0), .slice (some ⟨b0, 0, none⟩) 32 32, .int .i64 dp, .int .i64 nz, .int .i64 nz, .int .u8 103, .bool true] w5 (EfR w0 b0 ds) := by
        by_cases hc : dp < -3 ∨ 7 ≤ dp
        · exact efg_e w0 w5 b0 ds _ _ HB.out hds nz dp hnz (by omega) hc
        · exact efg_f w0 w5 b0 ds _ _ HB.out hds nz dp hnz (by omega)
      refine hcall.mono ?_
      rintro e w6 ⟨d', rfl, t, ht, oid, cap, sp2, rfl, hgr2, hst2⟩
      go_wp2_with fail
      exact ret_tmp rfl rfl rfl ⟨t, oid, cap, sp2, HQ.out t, by omega, rfl, hgr2, hst2.sub (.cons_cons _ (List.nil_sublist _))⟩
end Go.Proofs.YtpajcfkldnbpfaaGreatDoor
namespace Go.Proofs.YtpajcfkldnbpfaaGreatDoor
open Go.RowKit
theorem make24 (w : World) : ∃ l : List Value, l.length = 24 ∧ (Instr.makeSlice 213 (.int .i64 0) (.int .i64 24)).run Tryz.prog w = .ok (.slice (some ⟨w.heap.size, 0, none⟩) 0 24) (w.alloc (.cells l.toArray 5)) := by
  obtain ⟨ht, I, z, hI, hz, hs1, hs2, hzs⟩ := elOf_spec el213
  have h := run_makeSlice (P := Tryz.prog) w 213 5 I z ht hI hz .i64 .i64 0 24 (by decide) (by decide) (by rw [hs1]; decide) (by rw [hs2]; decide) (by decide)
  refine ⟨(madeCells z.cells ((24 : Int).toNat * I.size)).toList, ?_, h⟩
  rw [hs1]
  simp [size_madeCells]
set_option maxRecDepth 100000 in
set_option maxHeartbeats 1000000 in
theorem format55 (f : Nat) (w0 : World) (hT : Tabs w0) : Calls Tryz.prog 55 #[.float .f64 f, .int .u8 103, .int .i64 (-1), .int .i64 64] w0 (FFR (fun s => FtQ f s.data.toList) w0) := by
  have hst := St.nil w0.heap.size ⟨[], []⟩ w0 (Nat.le_refl _)
  obtain ⟨l, hl, hmk⟩ := make24 w0
  have hst2 := hst.new l 5
  have hgr : Gr 1 (some w0.heap.size) 0 24 [] l := ⟨rfl, by simp [hl], by decide, by simp [maxLen], fun h => by cases h⟩
  have hmx : max (3 : Int) 24 = 24 := by decide
  have HF := Lib.hid (ftoa_any w0 _ f w0.heap.size l hst2 hgr hT)
  clear hst hst2 hgr hl hT
  go_enter Tryz.func55, Tryz.ntmps55
  go_wp2_with fail
  refine HF.out.mono ?_
  rintro e w2 ⟨t, oid, cap, sp, hq, ht, rfl, hgr, hst⟩
  have hstr := run_str (P := Tryz.prog) (src := 213) (dst := 9) hst hgr Tryz.underlying213 Tryz.underlying5 Tryz.underlying9 w2 rfl
  have HQ := Lib.hid (And.intro hq hst)
  clear hq hst hgr HF hmk
  go_wp2_with fail
  exact ret_tmp rfl rfl rfl ⟨_, rfl, HQ.out.1, HQ.out.2.kp.below⟩
theorem format28 (f : Nat) (w0 : World) (hT : Tabs w0) : Calls Tryz.prog 28 #[.float .f64 f, .int .u8 103, .int .i64 (-1), .int .i64 64] w0 (FFR (fun s => FtQ f s.data.toList) w0) := by
  have HF := Lib.hid (format55 f w0 hT)
  clear hT
  go_enter Tryz.func28, Tryz.ntmps28
  go_wp2_with fail
  refine HF.out.mono ?_
  rintro e w2 ⟨s, rfl, hq, hb⟩
  go_wp2_with fail
  exact ret_tmp rfl rfl rfl ⟨_, rfl, hq, hb⟩
theorem str_of {s : ByteArray} {l : List UInt8} (h : s.data.toList = l) : s = ⟨l.toArray⟩ := by
  apply ByteArray.ext
  apply Array.ext'
  rw [h]
theorem floatsOK : FloatsOK := by
  refine ⟨fun f w hT => (format28 f w hT).mono ?_, fun w hT => (format28 _ w hT).mono ?_, fun w hT => (format28 _ w hT).mono ?_⟩
  · rintro e w' ⟨s, rfl, -, hb⟩
    exact ⟨s, rfl, trivial, hb⟩
  · rintro e w' ⟨s, rfl, hq, hb⟩
    exact ⟨s, rfl, str_of (hq.1 rfl), hb⟩
  · rintro e w' ⟨s, rfl, hq, hb⟩
    exact ⟨s, rfl, str_of (hq.2 rfl), hb⟩
end Go.Proofs.YtpajcfkldnbpfaaGreatDoor
