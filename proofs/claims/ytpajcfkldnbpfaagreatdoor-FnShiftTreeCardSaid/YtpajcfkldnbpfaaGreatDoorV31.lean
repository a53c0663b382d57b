/- ParseFloat: special values. ParseFloat: special. The decimal of strconv in memory; trim. -/
import Derived.Test.YtpajcfkldnbpfaaGreatDoorV26
import Derived.Laws.Externs
import Derived.Test.YtpajcfkldnbpfaaGreatDoorV16
import Derived.BigQuiet
import Derived.IntWalk
set_option linter.unusedSimpArgs false
set_option linter.unusedVariables false
namespace Go.Proofs.YtpajcfkldnbpfaaGreatDoor
open Go.RowKit
theorem run_frombits158 (n : Int) (w : World) : (callFunc 158 #[.int .u64 n]).run Tryz.prog w = .ok (.value (.float .f64 n.toNat)) w := by
  rw [run_callFunc_extern Tryz.func158 (by rfl) (by rfl) (by rfl) (by rfl)]
  rfl
set_option maxRecDepth 100000 in
set_option maxHeartbeats 1000000 in
theorem common_any (s p : ByteArray) (hs : s.size ≤ 1000) (hp : p.size ≤ 100) (w : World) : Calls Tryz.prog 190 #[.string s, .string p] w fun e w' => ∃ n : Nat, e = .returned (.int .i64 n) ∧ n ≤ p.size ∧ n ≤ s.size ∧ w = w' := by
  have hmin : (min (p.size : Int) (s.size : Int)) = ((min p.size s.size : Nat) : Int) := by omega
  obtain ⟨mn, hmn, h1, h2⟩ : ∃ mn : Nat, min p.size s.size = mn ∧ mn ≤ p.size ∧ mn ≤ s.size := ⟨_, rfl, Nat.min_le_left _ _, Nat.min_le_right _ _⟩
  rw [hmn] at hmin
  go_enter Tryz.func190, Tryz.ntmps190
  go_wp2
  go_loopw [6] (fun i wx => ∃ n : Nat, i = .int .i64 n ∧ n ≤ mn ∧ w = wx) (fun i _ => mn - (intOf i).toNat)
  case atStart => exact ⟨0, rfl, Nat.zero_le _, rfl⟩
  case round =>
    obtain ⟨n, rfl, hn, rfl⟩ := hrel
    by_cases hn2 : (n : Int) < mn
    · have hn3 : n < s.size := by omega
      have hn4 : n < p.size := by omega
      generalize hc : s[n] = c
      generalize hd : p[n] = d
      have H1 := Lib.hid hc
      have H2 := Lib.hid hd
      by_cases ha : (65 : Int) ≤ (c.toNat : Nat)
      · by_cases hb : ((c.toNat : Nat) : Int) ≤ 90
        · by_cases he : ((c.toNat : Nat) : Int) + 32 = (d.toNat : Nat)
          · go_wp2
            go_round
            case rel => exact ⟨n + 1, by rw [show (n : Int) + 1 = ((n + 1 : Nat) : Int) by omega], by omega, trivial⟩
            case measure => simp [intOf]; omega
          · go_wp2
            exact ret_tmp rfl rfl rfl ⟨n, rfl, by omega, by omega, rfl⟩
        · by_cases he : ((c.toNat : Nat) : Int) = (d.toNat : Nat)
          · go_wp2
            go_round
            case rel => exact ⟨n + 1, by rw [show (n : Int) + 1 = ((n + 1 : Nat) : Int) by omega], by omega, trivial⟩
            case measure => simp [intOf]; omega
          · go_wp2
            exact ret_tmp rfl rfl rfl ⟨n, rfl, by omega, by omega, rfl⟩
      · by_cases he : ((c.toNat : Nat) : Int) = (d.toNat : Nat)
        · go_wp2
          go_round
          case rel => exact ⟨n + 1, by rw [show (n : Int) + 1 = ((n + 1 : Nat) : Int) by omega], by omega, trivial⟩
          case measure => simp [intOf]; omega
        · go_wp2
          exact ret_tmp rfl rfl rfl ⟨n, rfl, by omega, by omega, rfl⟩
    · have e : n = mn := by omega
      subst e
      go_wp2
      exact ret_tmp rfl rfl rfl ⟨n, rfl, h1, h2, rfl⟩
end Go.Proofs.YtpajcfkldnbpfaaGreatDoor
namespace Go.Proofs.YtpajcfkldnbpfaaGreatDoor
open Go.RowKit
set_option maxHeartbeats 400000 in
theorem inf191_any (s : Int) (w : World) (hs : s = 1 ∨ s = -1) : Calls Tryz.prog 191 #[.int .i64 s] w fun e w' => ∃ f : Nat, e = .returned (.float .f64 f) ∧ w = w' := by
  have h1 := fun n => run_frombits158 n
  rcases hs with rfl | rfl
  all_goals
    go_enter Tryz.func191, Tryz.ntmps191
    go_wp2
    exact ret_tmp rfl rfl rfl ⟨_, rfl, rfl⟩
set_option maxHeartbeats 400000 in
theorem nan192_any (w : World) : Calls Tryz.prog 192 #[] w fun e w' => ∃ f : Nat, e = .returned (.float .f64 f) ∧ w = w' := by
  have h1 := fun n => run_frombits158 n
  go_enter Tryz.func192, Tryz.ntmps192
  go_wp2
  exact ret_tmp rfl rfl rfl ⟨_, rfl, rfl⟩
theorem ret_tmp3 {P : Program} {w : World} {a : Act} {fn : Func} {R : Ending → World → Prop} {p q r : Nat} {v u z : Value} (hf : fn.results = #[.tmp p, .tmp q, .tmp r]) (hp : a.tmps.getD p undef = v) (hq : a.tmps.getD q undef = u) (hr : a.tmps.getD r undef = z) (hd : a.defers = []) (h : R (.returned (.tuple #[v, u, z])) w) : bodyPost P fn R .ret a w := by
  refine bodyPost_ret (v := .tuple #[v, u, z]) ?_ hd h
  have hp' : a.tmps[p]?.getD undef = v := by simpa using hp
  have hq' : a.tmps[q]?.getD undef = u := by simpa using hq
  have hr' : a.tmps[r]?.getD undef = z := by simpa using hr
  simp [results, hf, hp', hq', hr']
def SpR (w : World) (e : Ending) (w' : World) : Prop := ∃ (f : Nat) (n : Int) (ok : Bool), e = .returned (.tuple #[.float .f64 f, .int .i64 n, .bool ok]) ∧ w = w'
set_option maxRecDepth 100000 in
set_option maxHeartbeats 2000000 in
theorem special_any (s : ByteArray) (h0 : 0 < s.size) (hs : s.size ≤ 1000) (w : World) : Calls Tryz.prog 148 #[.string s] w (SpR w) := by
  generalize hc : s[0] = c
  have HC := Lib.hid hc
  have hsub : (s.extract 1 s.size).size ≤ 1000 := by simp [ByteArray.size_extract]; omega
  have hcase : c.toNat = 43 ∨ c.toNat = 45 ∨ c.toNat = 105 ∨ c.toNat = 73 ∨ c.toNat = 110 ∨ c.toNat = 78 ∨ (c.toNat ≠ 43 ∧ c.toNat ≠ 45 ∧ c.toNat ≠ 105 ∧ c.toNat ≠ 73 ∧ c.toNat ≠ 110 ∧ c.toNat ≠ 78) := by omega
  rcases hcase with h | h | h | h | h | h | ⟨g1, g2, g3, g4, g5, g6⟩
  · have hsz := hsub
    go_enter Tryz.func148, Tryz.ntmps148
    go_wp2_with fail
    refine (common_any _ ⟨#[105, 110, 102, 105, 110, 105, 116, 121]⟩ hsz (by decide) _).mono ?_
    rintro e w1 ⟨n, rfl, hn8, -, rfl⟩
    have hn9 : n ≤ 8 := hn8
    clear hn8
    rcases (by omega : n < 3 ∨ n = 3 ∨ (3 < n ∧ n < 8) ∨ n = 8) with hn | rfl | hn | rfl
    · have hb3 : ((n : Int) == 3) = false := by simp; omega
      have hb8 : ((n : Int) == 8) = false := by simp; omega
      go_wp2_with fail
      (exact ret_tmp3 rfl rfl rfl rfl rfl ⟨_, _, _, rfl, rfl⟩)
    · (go_wp2_with fail; refine (inf191_any _ _ (.inl rfl)).mono ?_; rintro e w2 ⟨f, rfl, rfl⟩; go_wp2_with fail; (exact ret_tmp3 rfl rfl rfl rfl rfl ⟨_, _, _, rfl, rfl⟩))
    · have hn1 := hn.1
      have hn2 := hn.2
      clear hn
      (go_wp2_with fail; refine (inf191_any _ _ (.inl rfl)).mono ?_; rintro e w2 ⟨f, rfl, rfl⟩; go_wp2_with fail; (exact ret_tmp3 rfl rfl rfl rfl rfl ⟨_, _, _, rfl, rfl⟩))
    · (go_wp2_with fail; refine (inf191_any _ _ (.inl rfl)).mono ?_; rintro e w2 ⟨f, rfl, rfl⟩; go_wp2_with fail; (exact ret_tmp3 rfl rfl rfl rfl rfl ⟨_, _, _, rfl, rfl⟩))
  · have hsz := hsub
    go_enter Tryz.func148, Tryz.ntmps148
    go_wp2_with fail
    refine (common_any _ ⟨#[105, 110, 102, 105, 110, 105, 116, 121]⟩ hsz (by decide) _).mono ?_
    rintro e w1 ⟨n, rfl, hn8, -, rfl⟩
    have hn9 : n ≤ 8 := hn8
    clear hn8
    rcases (by omega : n < 3 ∨ n = 3 ∨ (3 < n ∧ n < 8) ∨ n = 8) with hn | rfl | hn | rfl
    · have hb3 : ((n : Int) == 3) = false := by simp; omega
      have hb8 : ((n : Int) == 8) = false := by simp; omega
      go_wp2_with fail
      (exact ret_tmp3 rfl rfl rfl rfl rfl ⟨_, _, _, rfl, rfl⟩)
    · (go_wp2_with fail; refine (inf191_any _ _ (.inr rfl)).mono ?_; rintro e w2 ⟨f, rfl, rfl⟩; go_wp2_with fail; (exact ret_tmp3 rfl rfl rfl rfl rfl ⟨_, _, _, rfl, rfl⟩))
    · have hn1 := hn.1
      have hn2 := hn.2
      clear hn
      (go_wp2_with fail; refine (inf191_any _ _ (.inr rfl)).mono ?_; rintro e w2 ⟨f, rfl, rfl⟩; go_wp2_with fail; (exact ret_tmp3 rfl rfl rfl rfl rfl ⟨_, _, _, rfl, rfl⟩))
    · (go_wp2_with fail; refine (inf191_any _ _ (.inr rfl)).mono ?_; rintro e w2 ⟨f, rfl, rfl⟩; go_wp2_with fail; (exact ret_tmp3 rfl rfl rfl rfl rfl ⟨_, _, _, rfl, rfl⟩))
  · have hsz := hs
    go_enter Tryz.func148, Tryz.ntmps148
    go_wp2_with fail
    refine (common_any _ ⟨#[105, 110, 102, 105, 110, 105, 116, 121]⟩ hsz (by decide) _).mono ?_
    rintro e w1 ⟨n, rfl, hn8, -, rfl⟩
    have hn9 : n ≤ 8 := hn8
    clear hn8
    rcases (by omega : n < 3 ∨ n = 3 ∨ (3 < n ∧ n < 8) ∨ n = 8) with hn | rfl | hn | rfl
    · have hb3 : ((n : Int) == 3) = false := by simp; omega
      have hb8 : ((n : Int) == 8) = false := by simp; omega
      go_wp2_with fail
      (exact ret_tmp3 rfl rfl rfl rfl rfl ⟨_, _, _, rfl, rfl⟩)
    · (go_wp2_with fail; refine (inf191_any _ _ (.inl rfl)).mono ?_; rintro e w2 ⟨f, rfl, rfl⟩; go_wp2_with fail; (exact ret_tmp3 rfl rfl rfl rfl rfl ⟨_, _, _, rfl, rfl⟩))
    · have hn1 := hn.1
      have hn2 := hn.2
      clear hn
      (go_wp2_with fail; refine (inf191_any _ _ (.inl rfl)).mono ?_; rintro e w2 ⟨f, rfl, rfl⟩; go_wp2_with fail; (exact ret_tmp3 rfl rfl rfl rfl rfl ⟨_, _, _, rfl, rfl⟩))
    · (go_wp2_with fail; refine (inf191_any _ _ (.inl rfl)).mono ?_; rintro e w2 ⟨f, rfl, rfl⟩; go_wp2_with fail; (exact ret_tmp3 rfl rfl rfl rfl rfl ⟨_, _, _, rfl, rfl⟩))
  · have hsz := hs
    go_enter Tryz.func148, Tryz.ntmps148
    go_wp2_with fail
    refine (common_any _ ⟨#[105, 110, 102, 105, 110, 105, 116, 121]⟩ hsz (by decide) _).mono ?_
    rintro e w1 ⟨n, rfl, hn8, -, rfl⟩
    have hn9 : n ≤ 8 := hn8
    clear hn8
    rcases (by omega : n < 3 ∨ n = 3 ∨ (3 < n ∧ n < 8) ∨ n = 8) with hn | rfl | hn | rfl
    · have hb3 : ((n : Int) == 3) = false := by simp; omega
      have hb8 : ((n : Int) == 8) = false := by simp; omega
      go_wp2_with fail
      (exact ret_tmp3 rfl rfl rfl rfl rfl ⟨_, _, _, rfl, rfl⟩)
    · (go_wp2_with fail; refine (inf191_any _ _ (.inl rfl)).mono ?_; rintro e w2 ⟨f, rfl, rfl⟩; go_wp2_with fail; (exact ret_tmp3 rfl rfl rfl rfl rfl ⟨_, _, _, rfl, rfl⟩))
    · have hn1 := hn.1
      have hn2 := hn.2
      clear hn
      (go_wp2_with fail; refine (inf191_any _ _ (.inl rfl)).mono ?_; rintro e w2 ⟨f, rfl, rfl⟩; go_wp2_with fail; (exact ret_tmp3 rfl rfl rfl rfl rfl ⟨_, _, _, rfl, rfl⟩))
    · (go_wp2_with fail; refine (inf191_any _ _ (.inl rfl)).mono ?_; rintro e w2 ⟨f, rfl, rfl⟩; go_wp2_with fail; (exact ret_tmp3 rfl rfl rfl rfl rfl ⟨_, _, _, rfl, rfl⟩))
  · go_enter Tryz.func148, Tryz.ntmps148
    go_wp2_with fail
    refine (common_any _ ⟨#[110, 97, 110]⟩ hs (by decide) _).mono ?_
    rintro e w1 ⟨n, rfl, hn8, -, rfl⟩
    by_cases h3 : n = 3
    · subst h3
      go_wp2_with fail
      refine (nan192_any _).mono ?_
      rintro e w2 ⟨f, rfl, rfl⟩
      go_wp2_with fail
      (exact ret_tmp3 rfl rfl rfl rfl rfl ⟨_, _, _, rfl, rfl⟩)
    · have hb : ((n : Int) == 3) = false := by simp; omega
      go_wp2_with fail
      (exact ret_tmp3 rfl rfl rfl rfl rfl ⟨_, _, _, rfl, rfl⟩)
  · go_enter Tryz.func148, Tryz.ntmps148
    go_wp2_with fail
    refine (common_any _ ⟨#[110, 97, 110]⟩ hs (by decide) _).mono ?_
    rintro e w1 ⟨n, rfl, hn8, -, rfl⟩
    by_cases h3 : n = 3
    · subst h3
      go_wp2_with fail
      refine (nan192_any _).mono ?_
      rintro e w2 ⟨f, rfl, rfl⟩
      go_wp2_with fail
      (exact ret_tmp3 rfl rfl rfl rfl rfl ⟨_, _, _, rfl, rfl⟩)
    · have hb : ((n : Int) == 3) = false := by simp; omega
      go_wp2_with fail
      (exact ret_tmp3 rfl rfl rfl rfl rfl ⟨_, _, _, rfl, rfl⟩)
  · go_enter Tryz.func148, Tryz.ntmps148
    go_wp2_with fail
    (exact ret_tmp3 rfl rfl rfl rfl rfl ⟨_, _, _, rfl, rfl⟩)
end Go.Proofs.YtpajcfkldnbpfaaGreatDoor
namespace Go.Proofs.YtpajcfkldnbpfaaGreatDoor
open Go.RowKit
def dCells (f : Nat → Int) : List Value := (List.range 800).map fun i => .int .u8 (f i)
def decL (f : Nat → Int) (nd dp : Int) (ng tr : Bool) : List Value := dCells f ++ [.int .i64 nd, .int .i64 dp, .bool ng, .bool tr]
def upd (f : Nat → Int) (i : Nat) (v : Int) : Nat → Int := fun j => if j = i then v else f j
theorem dCells_len (f : Nat → Int) : (dCells f).length = 800 := by simp [dCells]
theorem decL_len (f nd dp ng tr) : (decL f nd dp ng tr).length = 804 := by simp [decL, dCells_len]
theorem dec_d (f nd dp ng tr) {i : Nat} (h : i < 800) : (decL f nd dp ng tr)[i]? = some (.int .u8 (f i)) := by
  unfold decL
  rw [List.getElem?_append_left (by rw [dCells_len]; exact h)]
  simp [dCells, h]
theorem dec_tail (f nd dp ng tr) {i : Nat} (h : 800 ≤ i) : (decL f nd dp ng tr)[i]? = ([.int .i64 nd, .int .i64 dp, .bool ng, .bool tr] : List Value)[i - 800]? := by
  unfold decL
  rw [List.getElem?_append_right (by rw [dCells_len]; exact h), dCells_len]
theorem dec_nd (f nd dp ng tr) : (decL f nd dp ng tr)[800]? = some (.int .i64 nd) := dec_tail _ _ _ _ _ (by decide)
theorem dec_dp (f nd dp ng tr) : (decL f nd dp ng tr)[801]? = some (.int .i64 dp) := dec_tail _ _ _ _ _ (by decide)
theorem dec_ng (f nd dp ng tr) : (decL f nd dp ng tr)[802]? = some (.bool ng) := dec_tail _ _ _ _ _ (by decide)
theorem dec_tr (f nd dp ng tr) : (decL f nd dp ng tr)[803]? = some (.bool tr) := dec_tail _ _ _ _ _ (by decide)
theorem dset_d (f nd dp ng tr) {i : Nat} (v : Int) (h : i < 800) : (decL f nd dp ng tr).set i (.int .u8 v) = decL (upd f i v) nd dp ng tr := by
  unfold decL
  rw [List.set_append_left _ _ (by rw [dCells_len]; exact h)]
  refine congrArg (fun z => z ++ ([.int .i64 nd, .int .i64 dp, .bool ng, .bool tr] : List Value)) ?_
  apply List.ext_getElem?
  intro j
  rw [List.getElem?_set]
  by_cases hj : i = j
  · subst hj
    simp [dCells, upd, h]
  · rw [if_neg hj]
    by_cases h2 : j < 800
    · simp only [dCells, List.getElem?_map, List.getElem?_range h2, Option.map_some, upd]
      rw [if_neg (fun e => hj e.symm)]
    · rw [List.getElem?_eq_none (by rw [dCells_len]; omega), List.getElem?_eq_none (by rw [dCells_len]; omega)]
theorem dset_tail (f nd dp ng tr) {i : Nat} (v : Value) (h : 800 ≤ i) : (decL f nd dp ng tr).set i v = dCells f ++ ([.int .i64 nd, .int .i64 dp, .bool ng, .bool tr] : List Value).set (i - 800) v := by
  unfold decL
  rw [List.set_append_right _ _ (by rw [dCells_len]; exact h), dCells_len]
theorem dset_nd (f nd dp ng tr) (v : Int) : (decL f nd dp ng tr).set 800 (.int .i64 v) = decL f v dp ng tr := dset_tail _ _ _ _ _ _ (by decide)
theorem dset_dp (f nd dp ng tr) (v : Int) : (decL f nd dp ng tr).set 801 (.int .i64 v) = decL f nd v ng tr := dset_tail _ _ _ _ _ _ (by decide)
theorem dset_ng (f nd dp ng tr) (v : Bool) : (decL f nd dp ng tr).set 802 (.bool v) = decL f nd dp v tr := dset_tail _ _ _ _ _ _ (by decide)
theorem dset_tr (f nd dp ng tr) (v : Bool) : (decL f nd dp ng tr).set 803 (.bool v) = decL f nd dp ng v := dset_tail _ _ _ _ _ _ (by decide)
def DS (w0 : World) (d : Nat) (w : World) (f : Nat → Int) (nd dp : Int) (ng tr : Bool) : Prop := St w0.heap.size ⟨[274], []⟩ w0 w [(some d, decL f nd dp ng tr, 274)]
section
variable {P : Program} {ops : Array Oper} {Q : Exit → Act → World → Prop} {w0 w : World} {a : Act} {rest : List Oper} {o : Oper} {d : Nat} {f : Nat → Int} {nd dp : Int} {ng tr : Bool}
theorem DS.cell (h : DS w0 d w f nd dp ng tr) {i : Nat} {v : Value} (hv : (decL f nd dp ng tr)[i]? = some v) : w.cell? ⟨d, i, none⟩ = some v := (St.blk h (b := d) (by (repeat' (first | exact List.Mem.head _ | apply List.Mem.tail)); done)).cell hv
theorem DS.st (h : DS w0 d w f nd dp ng tr) : St w0.heap.size ⟨[274], []⟩ w0 w [(some d, decL f nd dp ng tr, 274)] := h
theorem DS.drew (h : DS w0 d w f nd dp ng tr) : DS w0 d w.drew f nd dp ng tr := St.drew h
theorem DS.drewN (h : DS w0 d w f nd dp ng tr) : ∀ n, DS w0 d (w.drewN n) f nd dp ng tr
  | 0 => h
  | n + 1 => by rw [World.drewN]; exact (DS.drewN h n).drew
theorem dl_ld {T : Nat} {x : Operand} {i : Nat} {v : Value} (hst : DS w0 d w f nd dp ng tr) (hg : o.guard = none) (ho : o.op = .load T x) (hx : a.eval x = .pointer (some ⟨d, i, none⟩)) (hT : oneOf P T = true) (hv : (decL f nd dp ng tr)[i]? = some v) (h : wpList P ops Q rest (a.put o.dst v) w) : WL P ops Q (o :: rest) a w :=
  wl_ldc1 hg ho hx (hst.cell hv) hT h
theorem dl_st {T : Nat} {x y : Operand} {i : Nat} {v : Value} {f' : Nat → Int} {nd' dp' : Int} {ng' tr' : Bool} (hst : DS w0 d w f nd dp ng tr) (hg : o.guard = none) (ho : o.op = .store T x y) (hx : a.eval x = .pointer (some ⟨d, i, none⟩)) (hy : a.eval y = v) (hv : v.oneCell' = true) (hT : szOf P T 1 = true) (hi : i < 804) (hs : (decL f nd dp ng tr).set i v = decL f' nd' dp' ng' tr')
    (h : ∀ w', DS w0 d w' f' nd' dp' ng' tr' → wpList P ops Q rest (a.put o.dst undef) w') : WL P ops Q (o :: rest) a w := by
  refine wl_st (L' := [(some d, decL f' nd' dp' ng' tr', 274)]) hg ?_ h
  have := st_one (P := P) hst (i := 0) (l := decL f nd dp ng tr) (t := 274) (v := v) ho hx hy rfl hT (by rw [decL_len]; exact hi) hv
  rw [hs] at this
  exact this
end
attribute [irreducible] decL dCells
theorem al272 : Tryz.prog.arrayLen 272 = 800 := by kernel_rfl
def ndOf (d : Nat) (w : World) : Nat := match w.cell? ⟨d, 800, none⟩ with | some (.int _ n) => n.toNat | _ => 0
theorem DS.ndOf {w0 w : World} {d : Nat} {f : Nat → Int} {nd dp : Int} {ng tr : Bool} (h : DS w0 d w f nd dp ng tr) : ndOf d w = nd.toNat := by
  unfold YtpajcfkldnbpfaaGreatDoor.ndOf
  rw [h.cell (dec_nd _ _ _ _ _)]
def TrimR (w0 : World) (d : Nat) (f : Nat → Int) (nd dp : Int) (ng tr : Bool) (e : Ending) (w' : World) : Prop := ∃ m : Nat, 1 ≤ m ∧ (m : Int) ≤ nd ∧ e = .returned (.tuple #[]) ∧ DS w0 d w' f m dp ng tr
set_option maxRecDepth 100000 in
theorem trim_any (w0 : World) (d : Nat) (f : Nat → Int) (n : Nat) (dp : Int) (ng tr : Bool) (w : World) (hS : DS w0 d w f n dp ng tr) (h1 : 1 ≤ n) (h8 : n ≤ 800) (hf : f 0 ≠ 48) : Calls Tryz.prog 175 #[.pointer (some ⟨d, 0, none⟩)] w (TrimR w0 d f n dp ng tr) := by
  have HF := Lib.hid hf
  clear hf
  go_enter Tryz.func175, Tryz.ntmps175
  go_wp2
  go_loopw [] (fun wx => ∃ m : Nat, 1 ≤ m ∧ m ≤ n ∧ Hid (DS w0 d wx f m dp ng tr)) (fun wx => ndOf d wx)
  case atStart => exact ⟨n, h1, Nat.le_refl _, Lib.hid hS⟩
  case round =>
    obtain ⟨m, hm1, hmn, HL⟩ := hrel
    have hst := HL.out
    clear hS
    have c0 := hst.cell (dec_nd _ _ _ _ _)
    have al := al272
    go_upto_region 0 with fail
    have hw : IntKind.i64.wrap ((m : Int) - 1) = (m : Int) - 1 := IntWalk.i64_in _ (by omega)
    have hlt : (0 : Int) < (m : Int) := by omega
    have hlt2 : 0 < m := by omega
    have hlt3 : (1 : Int) ≤ (m : Int) := by omega
    have h1 : (m : Int) - 1 < 800 := by omega
    have cd := hst.cell (dec_d f m dp ng tr (i := m - 1) (by omega))
    go_quiet (fail)
    replace hst := hst.drewN nq
    clear c0 cd hw hlt hlt2 hlt3 h1
    by_cases h48 : f (m - 1) = 48
    · have hm2 : m ≠ 1 := fun e => by subst e; exact HF.out h48
      go_wp2_with ((first | ((with_reducible refine at_load ?_); first | refine dl_ld hst rfl rfl rfl (one_of (by decide +kernel)) (dec_nd _ _ _ _ _) ?_ | refine dl_ld hst rfl rfl rfl (one_of (by decide +kernel)) (dec_dp _ _ _ _ _) ?_ | refine dl_ld hst rfl rfl rfl (one_of (by decide +kernel)) (dec_ng _ _ _ _ _) ?_ | refine dl_ld hst rfl rfl rfl (one_of (by decide +kernel)) (dec_tr _ _ _ _ _) ?_ | refine dl_ld hst rfl rfl rfl (one_of (by decide +kernel)) (dec_d _ _ _ _ _ (by omega)) ?_) | ((with_reducible refine at_store ?_); (first | refine dl_st hst rfl rfl rfl (rfl : _ = Value.int _ _) rfl (sz1_of (by decide +kernel)) (by decide) (dset_nd _ _ _ _ _ _) ?_ | refine dl_st hst rfl rfl rfl (rfl : _ = Value.int _ _) rfl (sz1_of (by decide +kernel)) (by decide) (dset_dp _ _ _ _ _ _) ?_ | refine dl_st hst rfl rfl rfl (rfl : _ = Value.bool _) rfl (sz1_of (by decide +kernel)) (by decide) (dset_tr _ _ _ _ _ _) ?_ | refine dl_st hst rfl rfl rfl (rfl : _ = Value.bool _) rfl (sz1_of (by decide +kernel)) (by decide) (dset_ng _ _ _ _ _ _) ?_ | refine dl_st hst rfl rfl rfl (rfl : _ = Value.int _ _) rfl (sz1_of (by decide +kernel)) (by omega) (dset_d _ _ _ _ _ _ (by omega)) ?_); clear hst; intro w hst)))
      go_frame
      go_round
      case rel => exact ⟨m - 1, by omega, by omega, Lib.hid (by rw [show ((m - 1 : Nat) : Int) = (m : Int) - 1 by omega]; exact hst)⟩
      case measure => rw [hst.ndOf, HL.out.ndOf]; omega
    · go_wp2_with ((first | ((with_reducible refine at_load ?_); first | refine dl_ld hst rfl rfl rfl (one_of (by decide +kernel)) (dec_nd _ _ _ _ _) ?_ | refine dl_ld hst rfl rfl rfl (one_of (by decide +kernel)) (dec_dp _ _ _ _ _) ?_ | refine dl_ld hst rfl rfl rfl (one_of (by decide +kernel)) (dec_ng _ _ _ _ _) ?_ | refine dl_ld hst rfl rfl rfl (one_of (by decide +kernel)) (dec_tr _ _ _ _ _) ?_ | refine dl_ld hst rfl rfl rfl (one_of (by decide +kernel)) (dec_d _ _ _ _ _ (by omega)) ?_) | ((with_reducible refine at_store ?_); (first | refine dl_st hst rfl rfl rfl (rfl : _ = Value.int _ _) rfl (sz1_of (by decide +kernel)) (by decide) (dset_nd _ _ _ _ _ _) ?_ | refine dl_st hst rfl rfl rfl (rfl : _ = Value.int _ _) rfl (sz1_of (by decide +kernel)) (by decide) (dset_dp _ _ _ _ _ _) ?_ | refine dl_st hst rfl rfl rfl (rfl : _ = Value.bool _) rfl (sz1_of (by decide +kernel)) (by decide) (dset_tr _ _ _ _ _ _) ?_ | refine dl_st hst rfl rfl rfl (rfl : _ = Value.bool _) rfl (sz1_of (by decide +kernel)) (by decide) (dset_ng _ _ _ _ _ _) ?_ | refine dl_st hst rfl rfl rfl (rfl : _ = Value.int _ _) rfl (sz1_of (by decide +kernel)) (by omega) (dset_d _ _ _ _ _ _ (by omega)) ?_); clear hst; intro w hst)))
      exact ret_none rfl rfl ⟨m, hm1, by omega, rfl, hst⟩
set_option maxRecDepth 100000 in
theorem prefix_any (w0 : World) (d : Nat) (f : Nat → Int) (n cap : Nat) (dp : Int) (ng tr : Bool) (s : ByteArray) (c : Nat) (w : World) (hS : DS w0 d w f n dp ng tr) (h1 : 1 ≤ n) (h8 : n ≤ 800) (hs : 0 < s.size) (hs2 : s.size ≤ 1000) (hc : (s[0]'hs).toNat = c) (hf : f 0 ≠ c) : Calls Tryz.prog 199 #[.slice (some ⟨d, 0, none⟩) n cap, .string s] w fun e w' => e = .returned (.bool (decide (f 0 < c))) ∧ ∃ m, w' = w.drewN m := by
  have HS := Lib.hid hS
  clear hS
  go_enter Tryz.func199, Tryz.ntmps199
  go_wp2
  go_loopw [5] (fun i wx => i = .int .i64 0 ∧ Hid (∃ m, wx = w.drewN m)) (fun i wx => 0)
  case atStart => exact ⟨rfl, Lib.hid ⟨0, rfl⟩⟩
  case round =>
    obtain ⟨rfl, HL⟩ := hrel
    obtain ⟨m0, rfl⟩ := HL.out
    clear HL
    have hst := HS.out.drewN m0
    have HM := Lib.hid (show ∃ m, w.drewN m0 = w.drewN m from ⟨m0, rfl⟩)
    revert hst HM
    generalize w.drewN m0 = wr
    intro hst HM
    have c0 := hst.cell (dec_d f n dp ng tr (i := 0) (by omega))
    have hz : (0 : Int) < (s.size : Int) := by omega
    have hn : ¬ ((n : Int) ≤ 0) := by omega
    have hn2 : (0 : Int) < n := by omega
    go_upto_region 6 with fail
    go_quiet (fail)
    replace hst := hst.drewN nq
    clear c0
    have HM2 := Lib.hid (show ∃ m, wr.drewN nq = w.drewN m by obtain ⟨m, rfl⟩ := HM.out; exact ⟨m + nq, World.drewN_drewN ..⟩)
    revert hst HM2
    generalize wr.drewN nq = wq
    intro hst HM2
    have hfb : (f 0 != (c : Int)) = true := by simpa using hf
    go_upto_region 7 with fail
    have hn2 : (0 : Int) < n := by omega
    have hn3 : 0 < n := by omega
    have c0 := hst.cell (dec_d f n dp ng tr (i := 0) (by omega))
    go_quiet (fail)
    have HM3 := Lib.hid (show ∃ m, wq.drewN nq = w.drewN m by obtain ⟨m, rfl⟩ := HM2.out; exact ⟨m + nq, World.drewN_drewN ..⟩)
    go_wp2_with fail
    exact ret_tmp rfl rfl rfl ⟨by first | rfl | simp, HM3.out⟩
end Go.Proofs.YtpajcfkldnbpfaaGreatDoor
