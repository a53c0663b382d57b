/- ParseFloat: the sentinel of a syntax error; which texts there are. The powers of ten: what the table holds, and how great. Scaling by powers of ten: bool2, unmin, round, pack64, prescale, uscale. parseFloat64. atof64exact. atof64. Which plain scalars ParseFloat is asked for. -/
import Derived.Test.YtpajcfkldnbpfaaGreatDoorV36
import Derived.Test.YtpajcfkldnbpfaaGreatDoorV32
import Derived.Laws.BitsAllLaws
import Derived.Lib.ItoaNum
import Derived.Laws.FloatArith
import Derived.Test.YtpajcfkldnbpfaaGreatDoorV35
import Derived.Test.YtpajcfkldnbpfaaGreatDoorV31
set_option linter.unusedSimpArgs false
set_option linter.unusedVariables false
namespace Go.Proofs.YtpajcfkldnbpfaaGreatDoor
open Go.RowKit Go.Lib
theorem starE : "*" ++ "errors.errorString" = "*errors.errorString" := by decide
theorem row304 (u : TypeId) (h : Tryz.prog.typeName? 3 u = some "*errors.errorString") : u = 304 :=
  typeName_ptr_named (nm := "errors.errorString") (by rw [starE]; kernel_rfl) (by kernel_rfl) (by decide) u (by rw [starE]; exact h)
theorem Tabs.err {w : World} (h : Tabs w) : ∃ p, w.cell? ⟨0, 0, none⟩ = some (.iface 304 p) := by
  obtain ⟨W0, h1, h2⟩ := h.laid
  have h3 := h1.tail.tail.tail.tail.tail.tail.tail.tail.tail.tail
  have hg : Tryz.prog.globalNamed "strconv.ErrSyntax" = some 0 := by kernel_rfl
  obtain ⟨a, s, hv, -, -, -⟩ := laid_sentinel (ti := 75) (tp := 304) (te := 306) (ts := 9) (f := ⟨ "s", 9, 0, false, "", "errors", 0⟩) h3 hg (by kernel_rfl) Tryz.underlying75 row304 (by kernel_rfl) (by kernel_rfl) rfl rfl (by kernel_rfl) (by kernel_rfl) (by kernel_rfl)
  exact ⟨_, head_cell h2 hg hv rfl⟩
end Go.Proofs.YtpajcfkldnbpfaaGreatDoor
namespace Go.Proofs.YtpajcfkldnbpfaaGreatDoor
open Go.RowKit Go.Lib
theorem rows_ok : (Go.Pinned.pow10Rows.all fun r => Nat.ble 9223372036854775808 r.1 && Nat.ble r.1 18446744073709551615 && Nat.ble r.2 18446744073709551615) = true := by kernel_rfl
theorem rows_len : Go.Pinned.pow10Rows.length = 696 := by kernel_rfl
theorem Tabs.p10s {w : World} (h : Tabs w) : ∀ i < 696, ∃ x y : Nat, w.cell? ⟨10, i * 2, none⟩ = some (.int .u64 x) ∧ w.cell? ⟨10, i * 2 + 1, none⟩ = some (.int .u64 y) ∧ (9223372036854775808 ≤ x ∧ x < 18446744073709551616) ∧ y < 18446744073709551616 := by
  obtain ⟨W0, h1, h2⟩ := h.laid
  have h3 := h1.tail.tail.tail.tail.tail.tail.tail.tail.tail.tail.tail.tail
  obtain ⟨cs, fuel, p, hv, hd⟩ := laid_head (t := 339) p10_global (by kernel_rfl) h3
  obtain ⟨xs, m, _, hxe, hl, hlen, hf⟩ := DataW.trod_array (n := 696) (e := 338) (by kernel_rfl) hd
  have hce : Tryz.prog.cellsOf 338 = 2 := by kernel_rfl
  rw [hce] at hf
  have hct : Tryz.prog.cellsOf 339 = 1392 := by kernel_rfl
  rw [hct] at hl
  have hxs : Go.Pinned.pow10Rows.map (fun x => (.agg [.lit (.int .u64 x.1), .lit (.int .u64 x.2)] : DataW Unit)) = xs.map (·.1) := by
    have := congrArg Prod.fst hxe
    dsimp only at this
    unfold Rows.laid_internal_strconv_pow10Tab Go.Pinned.pow10Tab at this
    simpa only [DataW.agg.injEq] using this
  intro i hi
  have hi2 : i < Go.Pinned.pow10Rows.length := by rw [rows_len]; exact hi
  have h4 := hf i hi
  rw [List.getElem?_eq_getElem (by omega)] at h4
  have hel : xs[i].1 = (.agg [.lit (.int .u64 (Go.Pinned.pow10Rows[i].1 : Nat)), .lit (.int .u64 (Go.Pinned.pow10Rows[i].2 : Nat))] : DataW Unit) := by
    have := congrArg (·[i]?) hxs
    simp only [List.getElem?_map, List.getElem?_eq_getElem hi2, List.getElem?_eq_getElem (show i < xs.length by omega), Option.map_some, Option.some.injEq] at this
    exact this.symm
  obtain ⟨ys, n, _, hye, hl2, hlen2, hf2⟩ := DataW.trod_struct (fs := #[⟨ "hi", 211, 0, false, "", "internal/strconv", 0⟩, ⟨ "lo", 211, 1, false, "", "internal/strconv", 8⟩]) (by kernel_rfl) h4
  obtain ⟨a, b, rfl⟩ : ∃ a b, ys = [a, b] := by
    match ys, hlen2 with
    | [a, b], _ => exact ⟨a, b, rfl⟩
  have hyy := congrArg Prod.fst hye
  dsimp only at hyy
  rw [hel] at hyy
  simp only [List.map_cons, List.map_nil, DataW.agg.injEq, List.cons.injEq, and_true] at hyy
  obtain ⟨ea, eb⟩ := hyy
  have ha := trod_int_lit (k := .u64) (n := (Go.Pinned.pow10Rows[i].1 : Nat)) (q := a.2) (by kernel_rfl) ((hf2 0 ⟨ "hi", 211, 0, false, "", "internal/strconv", 0⟩ rfl).trans (by rw [ea]; rfl))
  have hb := trod_int_lit (k := .u64) (n := (Go.Pinned.pow10Rows[i].2 : Nat)) (q := b.2) (by kernel_rfl) ((hf2 1 ⟨ "lo", 211, 1, false, "", "internal/strconv", 8⟩ rfl).trans (by rw [eb]; rfl))
  have hc1 : Tryz.prog.cellsOf 211 = 1 := by kernel_rfl
  dsimp only at ha hb
  simp only [hc1] at ha hb
  have gx := congrArg (·[0]?) ha
  have gy := congrArg (·[0]?) hb
  simp [List.getElem?_take, List.getElem?_drop] at gx gy
  have hr := List.all_eq_true.1 rows_ok _ (List.getElem_mem hi2)
  simp only [Bool.and_eq_true, Nat.ble_eq] at hr
  exact ⟨_, _, head_cell h2 p10_global hv (by simpa using gx), head_cell h2 p10_global hv (by simpa using gy), ⟨hr.1.1, Nat.lt_succ_of_le hr.1.2⟩, Nat.lt_succ_of_le hr.2⟩
end Go.Proofs.YtpajcfkldnbpfaaGreatDoor
namespace Go.Proofs.YtpajcfkldnbpfaaGreatDoor
open Go.RowKit
theorem bool2u_any (b : Bool) (w : World) : Calls Tryz.prog 157 #[.bool b] w fun e w' => e = .returned (.int .u64 (if b then 1 else 0)) ∧ w = w' := by
  cases b
  all_goals
    go_enter Tryz.func157, Tryz.ntmps157
    go_wp2
    exact ret_tmp rfl rfl rfl ⟨rfl, rfl⟩
theorem u64r (x : Int) : 0 ≤ IntKind.u64.wrap x ∧ IntKind.u64.wrap x ≤ 18446744073709551615 := by
  rw [IntKind.wrap_u64]
  omega
def SomeU (w : World) (e : Ending) (w' : World) : Prop := ∃ u : Int, (0 ≤ u ∧ u ≤ 18446744073709551615) ∧ e = .returned (.int .u64 u) ∧ w = w'
theorem unmin_any (x : Int) (w : World) : Calls Tryz.prog 173 #[.int .u64 x] w (SomeU w) := by
  go_enter Tryz.func173, Tryz.ntmps173
  go_wp2
  exact ret_tmp rfl rfl rfl ⟨_, u64r _, rfl, rfl⟩
def SomeF (w : World) (e : Ending) (w' : World) : Prop := ∃ f : Nat, e = .returned (.tuple #[.float .f64 f, .nilIface]) ∧ w = w'
theorem pack_any (m e : Int) (h : e < 972) (w : World) : Calls Tryz.prog 196 #[.int .u64 m, .int .i64 e] w (SomeF w) := by
  have h1 := fun n => run_frombits158 n
  have h2 : ¬ (972 : Int) ≤ e := by omega
  go_enter Tryz.func196, Tryz.ntmps196
  go_wp2
  all_goals exact ret_tmp2 rfl rfl rfl rfl ⟨_, rfl, rfl⟩
theorem log2_any (p : Int) (hp : -1000 ≤ p ∧ p ≤ 1000) (w : World) : Calls Tryz.prog 167 #[.int .i64 p] w fun e w' => e = .returned (.int .i64 (p * 108853 / 32768)) ∧ w = w' := by
  have h1 : IntKind.i64.wrap (p * 108853) = p * 108853 := IntWalk.i64_in _ (by omega)
  go_enter Tryz.func167, Tryz.ntmps167
  go_wp2
  exact ret_tmp rfl rfl rfl ⟨rfl, rfl⟩
def ScL (hi lo s : Int) : List Value := [.int .u64 hi, .int .u64 lo, .int .i64 s]
theorem norm_none {P : Program} {w : World} {a : Act} {fn : Func} {R : Ending → World → Prop} (hf : fn.results = #[]) (hd : a.defers = []) (h : R (.returned (.tuple #[])) w) : bodyPost P fn R .normal a w := by
  refine bodyPost_end (v := .tuple #[]) ?_ hd h
  simp [results, hf]
def Sclr (w0 : World) (b : Nat) (x y : Nat) (s : Int) (w : World) : Prop := St w0.heap.size ⟨[], []⟩ w0 w [(some b, [.int .u64 x, .int .u64 y, .int .i64 s], 311)]
def PreR (w0 : World) (b : Nat) (s : Int) (e : Ending) (w' : World) : Prop := ∃ x y : Nat, (9223372036854775808 ≤ x ∧ x < 18446744073709551616) ∧ y < 18446744073709551616 ∧ e = .returned (.tuple #[]) ∧ Sclr w0 b x y s w'
set_option maxRecDepth 100000 in
theorem prescale_any (b : Nat) (i : Nat) (e lp : Int) (z1 z2 z3 : Int) (hi : i < 696) (he : -5000 ≤ e ∧ e ≤ 5000) (hlp : -5000 ≤ lp ∧ lp ≤ 5000) (w0 w : World) (hS : St w0.heap.size ⟨[], []⟩ w0 w [(some b, [.int .u64 z1, .int .u64 z2, .int .i64 z3], 311)]) (hT : Tabs w0) :
    Calls Tryz.prog 166 #[ptr b, .int .i64 e, .int .i64 ((i : Int) - 348), .int .i64 lp] w (PreR w0 b (-(e + lp + 3))) := by
  obtain ⟨x, y, hx, hy, hx2, hy2⟩ := hT.p10s i hi
  have hst := hS
  have HX := Lib.hid (And.intro hx hy)
  have HX2 := Lib.hid (And.intro hx2 hy2)
  have hal : Tryz.prog.arrayLen 339 = 696 := by kernel_rfl
  have hw : IntKind.i64.wrap ((i : Int) - 348 - -348) = i := IntWalk.i64_in _ (by omega) |>.trans (by omega)
  have hw2 : IntKind.i64.wrap (e + lp) = e + lp := IntWalk.i64_in _ (by omega)
  have hw3 : IntKind.i64.wrap (e + lp + 3) = e + lp + 3 := IntWalk.i64_in _ (by omega)
  clear hS hx hy hx2 hy2
  go_enter Tryz.func166, Tryz.ntmps166
  go_wp2_with ((first | ((with_reducible refine at_load ?_); first | refine X1 hst ?_ | refine wl_ldc1 rfl rfl rfl (below_cell hst.kp.below HX.out.1) (one_of (by decide +kernel)) ?_ | refine wl_ldc1 rfl rfl rfl (below_cell hst.kp.below HX.out.2) (one_of (by decide +kernel)) ?_) | ((with_reducible refine at_store ?_); refine Y1 hst ?_; clear hst; intro w hst)))
  exact norm_none rfl rfl ⟨x, y, HX2.out.1, HX2.out.2, rfl, hst⟩
theorem and63 (s : Nat) (h : s < 64) : bits BinOp.and IntKind.i64 (s : Int) 63 = s := by
  have key : ∀ n : Fin 64, bits BinOp.and IntKind.i64 (n.val : Int) 63 = n.val := by decide +kernel
  exact key ⟨s, h⟩
theorem or_bit (a b : Nat) (ha : a < 18446744073709551616) (hb : b ≤ 1) : ∃ r : Nat, bits BinOp.or IntKind.u64 (a : Int) (b : Int) = (r : Int) ∧ a ≤ r ∧ r ≤ a + b ∧ r < 18446744073709551616 := by
  refine ⟨a ||| b, u64_or_nat a b ha (by omega), Nat.left_le_or, ?_, ?_⟩
  · rcases (by omega : b = 0 ∨ b = 1) with rfl | rfl
    · simp
    · have h : (a ||| 1) / 2 = a / 2 ||| 1 / 2 := Nat.or_div_two
      have h2 : a / 2 ||| 1 / 2 = a / 2 := by rw [show 1 / 2 = 0 from rfl]; exact Nat.or_zero _
      omega
  · exact Nat.or_lt_two_pow (n := 64) ha (by omega)
def UsR (b : Nat) (w0 : World) (hi lo : Nat) (s : Int) (H : Nat) (e : Ending) (w' : World) : Prop := ∃ u : Nat, u < 18446744073709551616 ∧ (1 ≤ H → (H - 1) / 2 ^ s.toNat ≤ u ∧ u ≤ H / 2 ^ s.toNat + 1) ∧ e = .returned (.int .u64 u) ∧ Sclr w0 b hi lo s w'
set_option maxRecDepth 100000 in
set_option maxHeartbeats 1000000 in
theorem uscale_any (b : Nat) (x hi lo : Nat) (s : Nat) (hs : s < 64) (hx : x < 18446744073709551616) (hhi : hi < 18446744073709551616) (hlo : lo < 18446744073709551616) (w0 w : World) (hS : Sclr w0 b hi lo s w) :
    Calls Tryz.prog 168 #[.int .u64 x, ptr b] w (UsR b w0 hi lo s (x * hi / 18446744073709551616)) := by
  have hand := and63 s hs
  have hst : St w0.heap.size ⟨[], []⟩ w0 w [(some b, [.int .u64 hi, .int .u64 lo, .int .i64 s], 311)] := hS
  have HM1 := Lib.hid (Tryz.bits_Mul64 x hi hx hhi)
  have HM2 := Lib.hid (Tryz.bits_Mul64 x lo hx hlo)
  clear hS
  go_enter Tryz.func168, Tryz.ntmps168
  go_wp2_with ((first | ((with_reducible refine at_load ?_); first | refine X1 hst ?_ | refine XW hst ?_) | ((with_reducible refine at_store ?_); (first | refine Y1 hst ?_ | refine YW hst ?_); clear hst; intro w hst)))
  refine (HM1.out _).mono ?_
  rintro e w1 ⟨rfl, rfl⟩
  have hH : x * hi / 18446744073709551616 < 18446744073709551616 := by
    apply Nat.div_lt_of_lt_mul
    exact Nat.mul_lt_mul'' hx hhi
  generalize x * hi / 18446744073709551616 = H at *
  have hM : x * hi % 18446744073709551616 < 18446744073709551616 := Nat.mod_lt _ (by decide)
  generalize x * hi % 18446744073709551616 = M at *
  have hK : (0 : Int) < 2 ^ s := Int.pow_pos (by omega)
  have hq0 : 0 ≤ (H : Int) / 2 ^ s := Int.ediv_nonneg (by omega) (by omega)
  have hq1 : (H : Int) / 2 ^ s * 2 ^ s ≤ H := Int.ediv_mul_le _ (by omega)
  have hq2 : 0 ≤ (H : Int) / 2 ^ s * 2 ^ s := Int.mul_nonneg hq0 (by omega)
  have hw1 : IntKind.u64.wrap ((H : Int) / 2 ^ s * 2 ^ s) = (H : Int) / 2 ^ s * 2 ^ s := IntWalk.u64_in _ (by omega)
  have HQ := Lib.hid (And.intro hq0 (And.intro hq1 hq2))
  clear hq0 hq1 hq2 hK
  have hcast : ((H / 2 ^ s : Nat) : Int) = (H : Int) / 2 ^ s := by push_cast; rfl
  go_upto_region 5 with ((first | ((with_reducible refine at_load ?_); first | refine X1 hst ?_ | refine XW hst ?_) | ((with_reducible refine at_store ?_); (first | refine Y1 hst ?_ | refine YW hst ?_); clear hst; intro w hst)))
  · obtain ⟨r, hr, h1, h2, h3⟩ := or_bit (H / 2 ^ s) 1 (Nat.lt_of_le_of_lt (Nat.div_le_self _ _) hH) (Nat.le_refl _)
    rw [hcast] at hr
    refine ret_tmp rfl rfl rfl ⟨r, h3, fun h => ⟨?_, h2⟩, by rw [← hr]; rfl, hst⟩
    exact Nat.le_trans (Nat.div_le_div_right (Nat.sub_le _ _)) h1
  · clear hw1 HQ hcast
    go_wp2_with ((first | ((with_reducible refine at_load ?_); first | refine X1 hst ?_ | refine XW hst ?_) | ((with_reducible refine at_store ?_); (first | refine Y1 hst ?_ | refine YW hst ?_); clear hst; intro w hst)))
    refine (HM2.out _).mono ?_
    rintro e w1 ⟨rfl, rfl⟩
    have hH2 : x * lo / 18446744073709551616 < 18446744073709551616 := by
      apply Nat.div_lt_of_lt_mul
      exact Nat.mul_lt_mul'' hx hlo
    generalize x * lo / 18446744073709551616 = H2 at *
    have hM2 : x * lo % 18446744073709551616 < 18446744073709551616 := Nat.mod_lt _ (by decide)
    generalize x * lo % 18446744073709551616 = M2 at *
    go_upto_region 6 with fail
    rename World => wd
    go_cut [5] (fun y wx => ∃ H' : Nat, y = .int .u64 H' ∧ H' < 18446744073709551616 ∧ (1 ≤ H → H - 1 ≤ H' ∧ H' ≤ H) ∧ wd = wx)
    case first =>
      by_cases hb : M < H2
      · go_wp2_with fail
        refine (bool2u_any _ _).mono ?_
        rintro e w1 ⟨rfl, rfl⟩
        go_wp2_with fail
        go_meet
        case rel =>
          by_cases h0 : H = 0
          · subst h0
            exact ⟨18446744073709551615, rfl, by decide, fun h => absurd h (by decide), by first | rfl | trivial⟩
          · exact ⟨H - 1, by rw [IntWalk.u64_in _ (by omega)]; exact congrArg _ (by omega), by omega, fun _ => ⟨Nat.le_refl _, by omega⟩, by first | rfl | trivial⟩
      · go_wp2_with fail
        refine (bool2u_any _ _).mono ?_
        rintro e w1 ⟨rfl, rfl⟩
        go_wp2_with fail
        go_meet
        case rel => exact ⟨H, by first | rfl | rw [IntWalk.u64_in _ (by omega)], hH, fun _ => ⟨by omega, Nat.le_refl _⟩, by first | rfl | trivial⟩
    case rest =>
    obtain ⟨H', rfl, hH', hHH, rfl⟩ := hcut
    have hst0 : Sclr w0 b hi lo s wd := hst
    clear hst
    go_upto_region 7 with fail
    refine wp_plan (fun wy => Sclr w0 b hi lo s wy) [0, 1, 2, 3, 4, 5, 6, 8, 9] (.q 0 (.q 1 (.q 2 (.q 3 (.q 4 (.q 5 (.q 6 (.e 7 true (.q 8 (.q 9 (.fin))))))))))) mixed (by kernel_rfl) (by kernel_rfl) (by kernel_rfl) (fun d v c a w h => by cases d <;> exact h) (St.drew hst0) ?_
    replace hst0 := St.drew hst0
    have hcast : ((H' / 2 ^ s : Nat) : Int) = (H' : Int) / 2 ^ s := by push_cast; rfl
    repeat ((refine AQ ?_); (refine QV ?_; go_frame))
    refine at_e (by simp only [List.getElem?_toArray, List.getElem?_cons_succ, List.getElem?_cons_zero]; rfl) rfl ?_
    refine e_call (by go_simp <;> first | rfl | exact ⟨⟨rfl, rfl⟩, rfl⟩ | exact ⟨⟨rfl, rfl⟩, rfl, rfl⟩ | exact ⟨rfl, rfl⟩) (bool2u_any _ _) ?_
    rintro e w4 ⟨rfl, rfl⟩
    refine ⟨_, rfl, fun _ => hst0, ?_⟩
    go_frame
    repeat ((refine AQ ?_); (refine QV ?_; go_frame))
    unfold wpP
    have hfin : ∀ c : Nat, c ≤ 1 → ∃ r : Nat, bits BinOp.or IntKind.u64 ((H' : Int) / 2 ^ s) (c : Int) = (r : Int) ∧ r < 18446744073709551616 ∧ (1 ≤ H → (H - 1) / 2 ^ s ≤ r ∧ r ≤ H / 2 ^ s + 1) := fun c hc => by
      obtain ⟨r, hr, h1, h2, h3⟩ := or_bit (H' / 2 ^ s) c (Nat.lt_of_le_of_lt (Nat.div_le_self _ _) hH') hc
      rw [hcast] at hr
      refine ⟨r, hr, h3, fun h => ?_⟩
      have h4 := Nat.div_le_div_right (c := 2 ^ s) (hHH h).1
      have h5 := Nat.div_le_div_right (c := 2 ^ s) (hHH h).2
      omega
    have HFN := Lib.hid hfin
    clear hfin hcast hHH
    go_wp2_with fail
    · obtain ⟨r, hr, h1, h2⟩ := HFN.out 1 (Nat.le_refl _)
      exact ret_tmp rfl rfl rfl ⟨r, h1, h2, by rw [← hr]; rfl, hst0⟩
    · obtain ⟨r, hr, h1, h2⟩ := HFN.out 0 (Nat.zero_le _)
      exact ret_tmp rfl rfl rfl ⟨r, h1, h2, by rw [← hr]; rfl, hst0⟩
end Go.Proofs.YtpajcfkldnbpfaaGreatDoor
namespace Go.Proofs.YtpajcfkldnbpfaaGreatDoor
open Go.RowKit
theorem bitLen_spec (d : Nat) (h1 : 1 ≤ d) (h2 : d < 18446744073709551616) : 1 ≤ Lib.bitLen d ∧ Lib.bitLen d ≤ 64 ∧ 2 ^ (Lib.bitLen d - 1) ≤ d ∧ d < 2 ^ Lib.bitLen d := by
  have h := Lib.bitLenAux_bounds 64 d h2 (by omega)
  exact ⟨h.1, Lib.bitLen_le d 64 (Nat.le_refl _) h2, h.2.1, h.2.2⟩
theorem and1 (n : Nat) (h : n < 9223372036854775808) : bits BinOp.and IntKind.u64 (n : Int) 1 = (n : Int) % 2 := by
  have := andm 1 (n : Int) (by decide) (by omega) (by omega)
  exact this
theorem urnd_any (x : Int) (w : World) : Calls Tryz.prog 172 #[.int .u64 x] w fun e w' => ∃ r : Int, e = .returned (.int .u64 r) ∧ w = w' ∧ (0 ≤ x → x < 4611686018427387904 → x / 4 ≤ r ∧ r ≤ x / 4 + 1) := by
  by_cases hx : 0 ≤ x ∧ x < 4611686018427387904
  · obtain ⟨n, rfl⟩ : ∃ n : Nat, x = n := ⟨x.toNat, by omega⟩
    have hw1 : IntKind.u64.wrap ((n : Int) + 1) = (n : Int) + 1 := IntWalk.u64_in _ (by omega)
    have ha : bits BinOp.and IntKind.u64 ((n : Int) / 4) 1 = (n : Int) / 4 % 2 := by
      have := and1 (n / 4) (by omega)
      push_cast at this
      exact this
    have hw2 : IntKind.u64.wrap ((n : Int) + 1 + (n : Int) / 4 % 2) = (n : Int) + 1 + (n : Int) / 4 % 2 := IntWalk.u64_in _ (by omega)
    go_enter Tryz.func172, Tryz.ntmps172
    go_wp2
    exact ret_tmp rfl rfl rfl ⟨_, rfl, rfl, fun _ _ => by omega⟩
  · go_enter Tryz.func172, Tryz.ntmps172
    go_wp2
    exact ret_tmp rfl rfl rfl ⟨_, rfl, rfl, fun h1 h2 => absurd ⟨h1, h2⟩ hx⟩
def ParR (w : World) (e : Ending) (w' : World) : Prop := ∃ f : Nat, e = .returned (.tuple #[.float .f64 f, .nilIface]) ∧ Below w.heap.size w w'
set_option maxRecDepth 100000 in
set_option maxHeartbeats 1000000 in
theorem parse_any (d i : Nat) (sg : Int) (h1 : 1 ≤ d) (h2 : d < 18446744073709551616) (hi : 280 ≤ i ∧ i ≤ 416) (w0 : World) (hT : Tabs w0) : Calls Tryz.prog 160 #[.int .u64 d, .int .i64 ((i : Int) - 348), .int .u64 sg] w0 (ParR w0) := by
  have hst := St.nil w0.heap.size ⟨[], []⟩ w0 (Nat.le_refl _)
  obtain ⟨hb1, hb2, hb3, hb4⟩ := bitLen_spec d h1 h2
  have HL := Lib.hid (Tryz.bits_Len64 (d : Int) · (by omega) (by omega))
  go_enter Tryz.func160, Tryz.ntmps160
  go_wp2_with fail
  refine (HL.out _).mono ?_
  rintro e w1 ⟨rfl, rfl⟩
  rw [Int.toNat_natCast]
  generalize hbl : Lib.bitLen d = b at *
  go_wp2_with fail
  refine (log2_any _ (by omega) _).mono ?_
  rintro e w1 ⟨rfl, rfl⟩
  generalize hlp : ((i : Int) - 348) * 108853 / 32768 = lp at *
  have hlp2 : -300 ≤ lp ∧ lp ≤ 300 := by omega
  have hi2 : i < 696 := by omega
  have hw1 : IntKind.i64.wrap (53 - (b : Int) - lp) = 53 - (b : Int) - lp := IntWalk.i64_in _ (by omega)
  have hmin : min (1074 : Int) (53 - (b : Int) - lp) = 53 - (b : Int) - lp := by omega
  clear hlp hi HL hbl
  go_wp2_with ((first | ((with_reducible refine at_load ?_); first | refine X1 hst ?_ | refine XW hst ?_) | ((with_reducible refine at_store ?_); (first | refine Y1 hst ?_ | refine YW hst ?_); clear hst; intro w hst) | ((first | ((with_reducible refine at_alloc ?_); refine ZP hst ?_) | ((with_reducible refine at_box ?_); refine ZP hst ?_) | ((with_reducible refine at_bslice ?_); refine ZS hst ?_)); clear hst; (first | ((fail_if_success have := b0); intro b0 w hb0 hst) | ((fail_if_success have := b1); intro b1 w hb1 hst) | ((fail_if_success have := b2); intro b2 w hb2 hst) | ((fail_if_success have := b3); intro b3 w hb3 hst) | ((fail_if_success have := b4); intro b4 w hb4 hst) | (intro b5 w hb5 hst)))))
  refine (prescale_any b0 i _ lp 0 0 0 (by omega) (by omega) (by omega) w1 w hst hT).mono ?_
  rintro e w2 ⟨x, y, ⟨hx1, hx2⟩, hy, rfl, hS⟩
  rw [show -(53 - (b : Int) - lp - (64 - b) + lp + 3) = ((8 : Nat) : Int) by omega] at hS
  clear hst
  have hst : St w1.heap.size ⟨[], []⟩ w1 w2 [(some b0, [.int .u64 x, .int .u64 y, .int .i64 8], 311)] := hS
  have HX := Lib.hid (And.intro hx1 (And.intro hx2 hy))
  clear hS hx1 hx2 hy
  go_upto_region 8 with ((first | ((with_reducible refine at_load ?_); first | refine X1 hst ?_ | refine XW hst ?_) | ((with_reducible refine at_store ?_); (first | refine Y1 hst ?_ | refine YW hst ?_); clear hst; intro w hst)))
  have hc : (64 : Int) - b = ((64 - b : Nat) : Int) := by omega
  have hd : d * 2 ^ (64 - b) < 18446744073709551616 := by
    have e : (2 : Nat) ^ b * 2 ^ (64 - b) = 18446744073709551616 := by rw [← Nat.pow_add, show b + (64 - b) = 64 by omega]
    rw [← e]
    exact Nat.mul_lt_mul_of_pos_right hb4 (Nat.pow_pos (by decide))
  generalize 64 - b = c at *
  have hw2 : IntKind.u64.wrap ((d : Int) * 2 ^ c) = ((d * 2 ^ c : Nat) : Int) := by
    rw [IntWalk.u64_in _ (by have : ((d * 2 ^ c : Nat) : Int) = (d : Int) * 2 ^ c := by push_cast; rfl
                             omega)]
    push_cast
    try rfl
  have hu := uscale_any b0 (d * 2 ^ c) x y 8 (by decide) hd HX.out.2.1 HX.out.2.2 w1 w2 hst
  rw [show ((d * 2 ^ c : Nat) : Int) = (d : Int) * 2 ^ c by push_cast <;> rfl] at hu
  have HU := Lib.hid hu
  clear hu hd
  go_wp2_with ((first | ((with_reducible refine at_load ?_); first | refine X1 hst ?_ | refine XW hst ?_) | ((with_reducible refine at_store ?_); (first | refine Y1 hst ?_ | refine YW hst ?_); clear hst; intro w hst)))
  refine HU.out.mono ?_
  rintro e w3 ⟨u, hu, -, rfl, hS⟩
  have HB := Lib.hid (St.kp hS).below
  clear hst hS HU HX hw2 hc hw1 hmin hi2 hb0
  go_upto_region 9 with fail
  rename World => wd
  go_cut [13] (fun y wx => (y = .int .i64 0 ∨ y = .int .i64 1) ∧ wd = wx)
  case first =>
    go_wp2_with fail
    refine (unmin_any _ _).mono ?_
    rintro e w4 ⟨um, hum, rfl, rfl⟩
    go_wp2_with fail
    generalize (decide ((_ : Int) ≤ _) : Bool) = bb
    refine (Tryz.internal_strconv_bool2_int _ _).mono ?_
    rintro e w5 ⟨rfl, rfl⟩
    cases bb
    all_goals
      go_wp2_with fail
      go_meet
      case rel => exact ⟨by simp, by first | rfl | trivial⟩
  case rest =>
  obtain ⟨rfl | rfl, rfl⟩ := hcut
  all_goals
    go_wp2_with fail
    refine (urnd_any _ _).mono ?_
    rintro e w4 ⟨r, rfl, rfl, -⟩
    go_wp2_with fail
    refine (pack_any _ _ (by omega) _).mono ?_
    rintro e w5 ⟨f, rfl, rfl⟩
    go_wp2_with fail
    exact ret_tmp2 rfl rfl rfl rfl ⟨f, rfl, HB.out⟩
end Go.Proofs.YtpajcfkldnbpfaaGreatDoor
namespace Go.Proofs.YtpajcfkldnbpfaaGreatDoor
open Go.RowKit
theorem run_float_some {P : Program} (op : BinOp) (h : op = .mul ∨ op = .quo) (t : TypeId) (x y : Nat) : ∃ (r : World → Nat) (g : World → World), (∀ w : World, Below w.heap.size w (g w)) ∧ ∀ w : World, (binOp op t (.float .f64 x) (.float .f64 y)).run P w = .ok (.float .f64 (r w)) (g w) := by
  cases hf : floatBits op .f64 x y with
  | some r => exact ⟨fun _ => r, fun w => w, fun w => Below.refl _ _, fun w => run_float_arith w op t .f64 x y r hf⟩
  | none =>
    refine ⟨fun w => (Question.nanBits .f64 x y).cut (w.tape w.drawn (.nanBits .f64 x y)), World.drew, fun w => (Below.refl _ _).drew, fun w => ?_⟩
    unfold floatBits at hf
    rcases h with rfl | rfl
    all_goals
      simp only at hf
      simp [binOp, Op.floatArith, hf, choose, Sem.run, Question.forced]
def ExR (w : World) (e : Ending) (w' : World) : Prop := ∃ (f : Nat) (ok : Bool), e = .returned (.tuple #[.float .f64 f, .bool ok]) ∧ Below w.heap.size w w'
set_option maxRecDepth 100000 in
set_option maxHeartbeats 1000000 in
theorem exact_any (m p : Int) (ng : Bool) (hm : 0 ≤ m ∧ m < 10000000000000000000) (hp : -60 ≤ p ∧ p ≤ 60) (w0 : World) (hT : Tabs w0) : Calls Tryz.prog 159 #[.int .u64 m, .int .i64 p, .bool ng] w0 (ExR w0) := by
  have c60 := hT.info.1
  have HT := Lib.hid hT
  clear hT
  go_enter Tryz.func159, Tryz.ntmps159
  go_upto_if 15 with fail
  · exact ret_tmp2 rfl rfl rfl rfl ⟨_, _, rfl, Below.refl _ _⟩
  rename World => wd
  go_cut [6] (fun y wx => (∃ f : Nat, y = .float .f64 f) ∧ wd = wx)
  case first =>
    obtain ⟨nf, hneg⟩ : ∃ nf : Nat → Nat, ∀ (x : Nat) (w : World), (Op.unary UnOp.neg (.float .f64 x)).run Tryz.prog w = .ok (.float .f64 (nf x)) w := ⟨_, fun _ _ => rfl⟩
    cases ng
    all_goals
      go_wp2_with fail
      go_meet
      case rel => exact ⟨⟨_, rfl⟩, by first | rfl | trivial⟩
  case rest =>
  obtain ⟨⟨f, rfl⟩, rfl⟩ := hcut
  clear c60
  rcases (by omega : p = 0 ∨ (0 < p ∧ p ≤ 22) ∨ (22 < p ∧ p ≤ 37) ∨ 37 < p ∨ (p < 0 ∧ -22 ≤ p) ∨ p < -22) with rfl | ⟨h1, h2⟩ | ⟨h1, h2⟩ | h1 | ⟨h1, h2⟩ | h1
  · go_wp2_with fail
    exact ret_tmp2 rfl rfl rfl rfl ⟨_, _, rfl, Below.refl _ _⟩
  · obtain ⟨n, rfl⟩ : ∃ n : Nat, p = n := ⟨p.toNat, by omega⟩
    obtain ⟨R, o, c, c9, hf10⟩ := HT.out.f10
    obtain ⟨y, hy⟩ := hf10 n (by omega)
    obtain ⟨r, g, hg, hr⟩ := run_float_some (P := Tryz.prog) .mul (.inl rfl) 73 f y
    have hn : (n : Int) < 23 := by omega
    have HG := Lib.hid hg
    clear hf10 hg
    go_wp2_with fail
    all_goals (exact ret_tmp2 rfl rfl rfl rfl ⟨_, _, rfl, by first | exact Below.refl _ _ | exact HG.out _⟩)
  · obtain ⟨n, hn0⟩ : ∃ n : Nat, p - 22 = (n : Int) := ⟨(p - 22).toNat, by omega⟩
    obtain ⟨R, o, c, c9, hf10⟩ := HT.out.f10
    obtain ⟨y, hy⟩ := hf10 n (by omega)
    obtain ⟨r, g, hg, hr⟩ := run_float_some (P := Tryz.prog) .mul (.inl rfl) 73 f y
    have hn : (n : Int) < 23 := by omega
    have HG := Lib.hid hg
    have hw : IntKind.i64.wrap (p - 22) = n := (IntWalk.i64_in _ (by omega)).trans (by omega)
    clear hf10 hg
    go_upto_region 11 with fail
    have hb := HG.out wd
    generalize g wd = w2 at *
    generalize r wd = f2 at *
    obtain ⟨R', o', c', c9', hf'⟩ := (HT.out.below hb).f10
    obtain ⟨y2, hy2⟩ := hf' 22 (by omega)
    obtain ⟨r2, g2, hg2, hr2⟩ := run_float_some (P := Tryz.prog) .mul (.inl rfl) 73 f2 y2
    have HB := Lib.hid (And.intro hb (hb.trans ((hg2 w2).mono hb.size)))
    clear hf' hg2 hb
    go_wp2_with fail
    all_goals exact ret_tmp2 rfl rfl rfl rfl ⟨_, _, rfl, by first | exact HB.out.1 | exact HB.out.2⟩
  · go_wp2_with fail
    exact ret_tmp2 rfl rfl rfl rfl ⟨_, _, rfl, Below.refl _ _⟩
  · obtain ⟨n, hn0⟩ : ∃ n : Nat, p = -(n : Int) := ⟨(-p).toNat, by omega⟩
    subst hn0
    obtain ⟨R, o, c, c9, hf10⟩ := HT.out.f10
    obtain ⟨y, hy⟩ := hf10 n (by omega)
    obtain ⟨r, g, hg, hr⟩ := run_float_some (P := Tryz.prog) .quo (.inr rfl) 73 f y
    have hn : (n : Int) < 23 := by omega
    have hw : IntKind.i64.wrap (- -(n : Int)) = n := (IntWalk.i64_in _ (by omega)).trans (by omega)
    have HG := Lib.hid hg
    clear hf10 hg
    go_wp2_with fail
    all_goals (exact ret_tmp2 rfl rfl rfl rfl ⟨_, _, rfl, by first | exact Below.refl _ _ | exact HG.out _⟩)
  · go_wp2_with fail
    exact ret_tmp2 rfl rfl rfl rfl ⟨_, _, rfl, Below.refl _ _⟩
end Go.Proofs.YtpajcfkldnbpfaaGreatDoor
namespace Go.Proofs.YtpajcfkldnbpfaaGreatDoor
open Go.RowKit
def decZ : List Value := decL (fun _ => 0) 0 0 false false
set_option maxRecDepth 100000 in
theorem zero274 : ∃ i z, Tryz.prog.info? 274 = some i ∧ i.zero = some z ∧ z.cells = decZ.toArray := by
  refine ⟨_, _, rfl, rfl, ?_⟩
  kernel_rfl
theorem run_new274 {a : Act} {o : Oper} (ho : o.op = .alloc 274) (w : World) : (execOp a.eval o).run Tryz.prog w = .ok (.value (.pointer (some ⟨w.heap.size, 0, none⟩))) (w.alloc (.cells decZ.toArray 274)) := by
  obtain ⟨i, z, h1, h2, h3⟩ := zero274
  simp [execOp, ho, Instr.alloc, zeroValue, typeInfo, h1, h2, newVar, newRow, h3]
def AtR (w : World) (e : Ending) (w' : World) : Prop := ∃ (f : Nat) (n : Int) (err : Value), (err = .nilIface ∨ err = .iface 221 (.int .i64 2)) ∧ e = .returned (.tuple #[.float .f64 f, .int .i64 n, err]) ∧ Below w.heap.size w w'
theorem finDp_rng {l : List UInt8} (h : BodyL l) (h2 : 20 ≤ (sc l).nd) : 14 ≤ finDp (sc l) ∧ finDp (sc l) ≤ 18 := h.fin h2
set_option maxRecDepth 100000 in
set_option maxHeartbeats 4000000 in
theorem atof_num (s : ByteArray) (off : Nat) (l : List UInt8) (hN : NumS s off l) (w0 : World) (hT : Tabs w0) : Calls Tryz.prog 121 #[.string s] w0 (AtR w0) := by
  have hlen := hN.1.len
  have hfst := hN.1.first.1
  have hsz := hN.size
  have hoff : off ≤ 1 := by rcases hN.2 with ⟨h, _⟩ | ⟨h, _⟩ <;> omega
  have h0 : 0 < s.size := by omega
  have hs1 : s.size ≤ 1000 := by omega
  have HN := Lib.hid (And.intro hN (And.intro (special_any s h0 hs1 w0) (readF_any s off l hN w0)))
  have HT := Lib.hid hT
  clear hN hT hfst hsz hlen
  go_enter Tryz.func121, Tryz.ntmps121
  go_wp2_with fail
  refine HN.out.2.1.mono ?_
  rintro e w1 ⟨f, n, ok, rfl, rfl⟩
  cases ok
  case true =>
    go_wp2_with fail
    (exact ret_tmp3 rfl rfl rfl rfl rfl ⟨_, _, _, .inl rfl, rfl, by first | exact Below.refl _ _ | exact HB.out⟩)
  go_wp2_with fail
  refine HN.out.2.2.mono ?_
  rintro e w1 ⟨m, p, ng, tr, hm, hp, htr, rfl, rfl⟩
  have copt := HT.out.optimize
  have HTR := Lib.hid htr
  clear htr
  go_upto_region 11 with fail
  go_cut [16] from 65 to 67 (fun y wx => (∃ sg : Int, y = .int .u64 sg) ∧ w0 = wx)
  case first =>
    as_aux_lemma =>
    go_wp2_with fail
    refine (bool2u_any _ _).mono ?_
    rintro e w2 ⟨rfl, rfl⟩
    cases ng
    all_goals
      go_wp2_with fail
      go_meet
      case rel => exact ⟨⟨_, rfl⟩, by first | rfl | trivial⟩
  case rest =>
  obtain ⟨⟨sg, rfl⟩, rfl⟩ := hcut
  have h1 := fun n => run_frombits158 n
  by_cases hm0 : m = 0
  · subst hm0
    as_aux_lemma =>
    go_wp2_with fail
    (exact ret_tmp3 rfl rfl rfl rfl rfl ⟨_, _, _, .inl rfl, rfl, by first | exact Below.refl _ _ | exact HB.out⟩)
  · obtain ⟨i, rfl, hi⟩ : ∃ i : Nat, p = (i : Int) - 348 ∧ 288 ≤ i ∧ i ≤ 408 := ⟨(p + 348).toNat, by omega, by omega⟩
    obtain ⟨d, rfl⟩ : ∃ d : Nat, m = d := ⟨m.toNat, by omega⟩
    have HPF := Lib.hid (fun (k : Nat) (h1 : 1 ≤ k) (h2 : k < 18446744073709551616) (w : World) (hw : Tabs w) => parse_any k i sg h1 h2 (by omega) w hw)
    cases tr
    · as_aux_lemma =>
      go_wp2_with fail
      refine (exact_any (d : Int) ((i : Int) - 348) ng hm (by omega) _ HT.out).mono ?_
      rintro e w2 ⟨f2, ok2, rfl, hb⟩
      have HB := Lib.hid hb
      clear hb copt
      cases ok2
      · go_wp2_with fail
        refine (HPF.out d (by omega) (by omega) _ (HT.out.below HB.out)).mono ?_
        rintro e w3 ⟨f3, rfl, hb⟩
        have HB := Lib.hid (HB.out.trans (hb.mono HB.out.size))
        clear hb
        go_wp2_with fail
        (exact ret_tmp3 rfl rfl rfl rfl rfl ⟨_, _, _, .inl rfl, rfl, by first | exact Below.refl _ _ | exact HB.out⟩)
      · go_wp2_with fail
        (exact ret_tmp3 rfl rfl rfl rfl rfl ⟨_, _, _, .inl rfl, rfl, by first | exact Below.refl _ _ | exact HB.out⟩)
    · have hnd := HTR.out rfl
      have hwd : IntKind.u64.wrap ((d : Int) + 1) = ((d + 1 : Nat) : Int) := (IntWalk.u64_in _ (by omega)).trans (by omega)
      go_wp2_with fail
      refine (HPF.out d (by omega) (by omega) _ HT.out).mono ?_
      rintro e w2 ⟨f3, rfl, hb⟩
      have HB := Lib.hid hb
      clear hb copt
      go_wp2_with fail
      refine (HPF.out (d + 1) (by omega) (by omega) _ (HT.out.below HB.out)).mono ?_
      rintro e w3 ⟨f4, rfl, hb⟩
      have HB := Lib.hid (HB.out.trans (hb.mono HB.out.size))
      clear hb
      have hst := (St.nil w0.heap.size ⟨[274], []⟩ w0 (Nat.le_refl _)).keep (L := []) (Kp.of_below ⟨[], []⟩ HB.out (Nat.le_refl _)) (Nat.le_refl _) (fun _ h => by cases h) rfl rfl
      go_upto_region 29 with ((with_reducible refine at_alloc ?_); refine ZP (l := decZ) (t := 274) hst ?_ rfl rfl (run_new274 rfl _); clear hst; intro bd w hbd hst)
      · (exact ret_tmp3 rfl rfl rfl rfl rfl ⟨_, _, _, .inl rfl, rfl, by first | exact Below.refl _ _ | exact HB.out⟩)
      · have hex : s.extract 0 s.size = s := by
          apply ByteArray.ext
          simp [ByteArray.data_extract]
        have HSET := Lib.hid (set_any w0 bd s off l HN.out.1 w hst)
        clear hst
        go_wp2_with fail
        refine HSET.out.mono ?_
        rintro e w4 ⟨fd, ng2, hd10, hf48, rfl, hst⟩
        have hfin := HN.out.1.1.fin hnd
        have hbd2 := (sc_bound l).2.2
        have hlen := HN.out.1.1.len
        have HFB := Lib.hid (floatBits_any w0 bd fd (sc l).nd (finDp (sc l)) ng2 w4 hst (by omega) (by omega) hd10 (hf48 (by omega)) (by omega) HT.out)
        clear hst hd10 hf48 hfin hbd2 hlen
        go_wp2_with fail
        refine HFB.out.mono ?_
        rintro e w5 ⟨bb, rfl, hb⟩
        have HB := Lib.hid hb
        clear hb
        go_wp2_with fail
        (exact ret_tmp3 rfl rfl rfl rfl rfl ⟨_, _, _, .inl rfl, rfl, by first | exact Below.refl _ _ | exact HB.out⟩)
set_option maxRecDepth 100000 in
set_option maxHeartbeats 1000000 in
theorem special_nil (w : World) : Calls Tryz.prog 148 #[.string ByteArray.empty] w (SpR w) := by
  go_enter Tryz.func148, Tryz.ntmps148
  go_wp2_with fail
  exact ret_tmp3 rfl rfl rfl rfl rfl ⟨_, _, _, rfl, rfl⟩
set_option maxRecDepth 100000 in
set_option maxHeartbeats 1000000 in
theorem readF_nil (w : World) : Calls Tryz.prog 149 #[.string ByteArray.empty] w (RFB w) := by
  go_enter Tryz.func149, Tryz.ntmps149
  go_wp2_with fail
  apply wp_scope_straight
  go_wp2_with fail
  exact ret_tmp7 rfl rfl rfl rfl rfl rfl rfl rfl rfl ⟨_, _, _, _, _, _, rfl, rfl⟩
set_option maxRecDepth 100000 in
set_option maxHeartbeats 1000000 in
theorem atof_bad (s : ByteArray) (w0 : World) (h1 : Calls Tryz.prog 148 #[.string s] w0 (SpR w0)) (h2 : Calls Tryz.prog 149 #[.string s] w0 (RFB w0)) : Calls Tryz.prog 121 #[.string s] w0 (AtR w0) := by
  have HN := Lib.hid (And.intro h1 h2)
  clear h1 h2
  go_enter Tryz.func121, Tryz.ntmps121
  go_wp2_with fail
  refine HN.out.1.mono ?_
  rintro e w1 ⟨f, n, ok, rfl, rfl⟩
  cases ok
  case true =>
    go_wp2_with fail
    exact ret_tmp3 rfl rfl rfl rfl rfl ⟨_, _, _, .inl rfl, rfl, Below.refl _ _⟩
  go_wp2_with fail
  refine HN.out.2.mono ?_
  rintro e w1 ⟨m, p, i, ng, tr, hx, rfl, rfl⟩
  go_wp2_with fail
  exact ret_tmp3 rfl rfl rfl rfl rfl ⟨_, _, _, .inr rfl, rfl, Below.refl _ _⟩
def Asked (s : ByteArray) : Prop := s = ByteArray.empty ∨ (∃ off l, NumS s off l) ∨ (s.size ≤ 1000 ∧ ∃ off k, BadS s off k)
theorem atof_any (s : ByteArray) (hs : Asked s) (w0 : World) (hT : Tabs w0) : Calls Tryz.prog 121 #[.string s] w0 (AtR w0) := by
  rcases hs with rfl | ⟨off, l, hN⟩ | ⟨hs, off, k, hB⟩
  · exact atof_bad _ w0 (special_nil w0) (readF_nil w0)
  · exact atof_num s off l hN w0 hT
  · exact atof_bad s w0 (special_any s hB.1 hs w0) (readF_bad s off k hB hs w0)
def P5R (w : World) (e : Ending) (w' : World) : Prop := ∃ (f : Nat) (err : Value), (err = .nilIface ∨ err = .iface 221 (.int .i64 2)) ∧ e = .returned (.tuple #[.float .f64 f, err]) ∧ Below w.heap.size w w'
set_option maxRecDepth 100000 in
set_option maxHeartbeats 1000000 in
theorem prefix88 (s : ByteArray) (hs : Asked s) (w0 : World) (hT : Tabs w0) : Calls Tryz.prog 88 #[.string s, .int .i64 64] w0 (AtR w0) := by
  have HA := Lib.hid (atof_any s hs w0 hT)
  clear hs hT
  go_enter Tryz.func88, Tryz.ntmps88
  go_wp2_with fail
  refine HA.out.mono ?_
  rintro e w1 ⟨f, n, err, herr, rfl, hb⟩
  have HB := Lib.hid (And.intro herr hb)
  clear herr hb
  go_wp2_with fail
  exact ret_tmp3 rfl rfl rfl rfl rfl ⟨_, _, _, HB.out.1, rfl, HB.out.2⟩
set_option maxRecDepth 100000 in
set_option maxHeartbeats 1000000 in
theorem parse53 (s : ByteArray) (hs : Asked s) (w0 : World) (hT : Tabs w0) : Calls Tryz.prog 53 #[.string s, .int .i64 64] w0 (P5R w0) := by
  have HA := Lib.hid (prefix88 s hs w0 hT)
  clear hs hT
  go_enter Tryz.func53, Tryz.ntmps53
  go_wp2_with fail
  refine HA.out.mono ?_
  rintro e w1 ⟨f, n, err, herr, rfl, hb⟩
  have HB := Lib.hid (And.intro herr hb)
  clear herr hb
  go_wp2_with fail
  all_goals first | exact ret_tmp2 rfl rfl rfl rfl ⟨_, _, .inr rfl, rfl, HB.out.2⟩ | exact ret_tmp2 rfl rfl rfl rfl ⟨_, _, HB.out.1, rfl, HB.out.2⟩
set_option maxRecDepth 100000 in
set_option maxHeartbeats 1000000 in
theorem parse27 (s : ByteArray) (hs : Asked s) (hz : s.size ≤ 1000) : PFC s := by
  intro w0 hT
  have HA := Lib.hid (parse53 s hs w0 hT)
  have HT := Lib.hid hT
  clear hs hT
  go_enter Tryz.func27, Tryz.ntmps27
  go_wp2_with fail
  refine HA.out.mono ?_
  rintro e w1 ⟨f, err, herr, rfl, hb⟩
  have HB := Lib.hid hb
  clear hb
  rcases herr with rfl | rfl
  · go_wp2_with fail
    exact ret_tmp2 rfl rfl rfl rfl ⟨_, _, rfl, .inl rfl, HB.out⟩
  · obtain ⟨p, hp⟩ := (HT.out.below HB.out).err
    have HE := Lib.hid (Tryz.strconv_toError_syntax ⟨#[80, 97, 114, 115, 101, 70, 108, 111, 97, 116]⟩ s 0 64 _ w1 (by omega) hp (.inr ⟨_, _, rfl⟩))
    clear hp
    go_wp2_with fail
    refine HE.out.mono ?_
    rintro e w2 ⟨N, rfl, -, -, hb⟩
    have HB := Lib.hid (HB.out.trans (hb.mono HB.out.size))
    clear hb
    go_wp2_with fail
    exact ret_tmp2 rfl rfl rfl rfl ⟨_, _, rfl, .inr ⟨_, _, rfl⟩, HB.out⟩
end Go.Proofs.YtpajcfkldnbpfaaGreatDoor
namespace Go.Proofs.YtpajcfkldnbpfaaGreatDoor
open Go.RowKit
theorem IntT.body {t : ByteArray} (h : IntT t) : BodyL t.data.toList := by
  have h2 := dgsB_size h.1
  have h3 : t.data.toList.length = t.size := by simp
  exact .inl ⟨Digs.of_dgs h.1, by omega, by omega⟩
theorem asked_num {s t : ByteArray} (hb : BodyL t.data.toList) (h : s = t ∨ s.data.toList = 45 :: t.data.toList) : Asked s := by
  rcases h with rfl | h
  · exact .inr (.inl ⟨0, _, hb, .inl ⟨rfl, rfl⟩⟩)
  · exact .inr (.inl ⟨1, _, hb, .inr ⟨rfl, h⟩⟩)
theorem asked_float {s : ByteArray} (h : FloatN s) : Asked s := by
  obtain ⟨t, ht, h2⟩ := h
  refine asked_num (.inr ht.list) ?_
  rcases h2 with h2 | h2
  · exact .inl h2
  · exact .inr (by rw [h2, minus_list])
theorem bad_letter {s : ByteArray} (h : ∃ h : 0 < s.size, letB (s[0].toNat : Int) = true) : BadS s 0 0 := by
  obtain ⟨h0, hl⟩ := h
  simp only [letB, Bool.or_eq_true, decide_eq_true_eq] at hl
  refine ⟨h0, h0, .inl ⟨rfl, by omega, by omega⟩, Nat.zero_le _, fun h => absurd h (by decide), ?_, ?_, ?_⟩
  · show (s[0].toNat : Int) ≠ 46; omega
  · show (s[0].toNat : Int) ≠ 95; omega
  · show (s[0].toNat : Int) < 48 ∨ 57 < (s[0].toNat : Int); omega
set_option maxRecDepth 100000 in
theorem asked_plain {s : ByteArray} (h : PlainOk s) (hs : s.size ≤ 40) (hp : s.data.toList.head? ≠ some 43) : Asked s := by
  rcases h with ⟨k, hk, h⟩ | h
  · rcases h with ⟨_, h⟩ | ⟨_, h⟩ | ⟨_, h⟩ | ⟨_, h⟩ | h
    · simp only [nullsL, List.mem_cons, List.not_mem_nil, or_false] at h
      rcases h with h | h | h | h | h
      · exact .inl (of_list h)
      · (obtain rfl := of_list h; exact .inr (.inr ⟨by decide, 0, 0, by decide, by decide, by decide, by decide, by decide, by decide, by decide, by decide⟩))
      · (obtain rfl := of_list h; exact .inr (.inr ⟨by decide, 0, 0, by decide, by decide, by decide, by decide, by decide, by decide, by decide, by decide⟩))
      · (obtain rfl := of_list h; exact .inr (.inr ⟨by decide, 0, 0, by decide, by decide, by decide, by decide, by decide, by decide, by decide, by decide⟩))
      · (obtain rfl := of_list h; exact .inr (.inr ⟨by decide, 0, 0, by decide, by decide, by decide, by decide, by decide, by decide, by decide, by decide⟩))
    · simp only [boolsL, List.mem_cons, List.not_mem_nil, or_false] at h
      rcases h with h | h | h | h | h | h
      all_goals (obtain rfl := of_list h; exact .inr (.inr ⟨by decide, 0, 0, by decide, by decide, by decide, by decide, by decide, by decide, by decide, by decide⟩))
    · simp only [infsL, List.mem_cons, List.not_mem_nil, or_false] at h
      rcases h with h | h | h | h | h | h | h | h | h
      · (obtain rfl := of_list h; exact .inr (.inr ⟨by decide, 0, 1, by decide, by decide, by decide, by decide, by decide, by decide, by decide, by decide⟩))
      · (obtain rfl := of_list h; exact .inr (.inr ⟨by decide, 0, 1, by decide, by decide, by decide, by decide, by decide, by decide, by decide, by decide⟩))
      · (obtain rfl := of_list h; exact .inr (.inr ⟨by decide, 0, 1, by decide, by decide, by decide, by decide, by decide, by decide, by decide, by decide⟩))
      · (obtain rfl := of_list h; exact .inr (.inr ⟨by decide, 1, 1, by decide, by decide, by decide, by decide, by decide, by decide, by decide, by decide⟩))
      · (obtain rfl := of_list h; exact .inr (.inr ⟨by decide, 1, 1, by decide, by decide, by decide, by decide, by decide, by decide, by decide, by decide⟩))
      · (obtain rfl := of_list h; exact .inr (.inr ⟨by decide, 1, 1, by decide, by decide, by decide, by decide, by decide, by decide, by decide, by decide⟩))
      all_goals exact absurd (by rw [h]; rfl) hp
    · simp only [nansL, List.mem_cons, List.not_mem_nil, or_false] at h
      rcases h with h | h | h
      all_goals (obtain rfl := of_list h; exact .inr (.inr ⟨by decide, 0, 1, by decide, by decide, by decide, by decide, by decide, by decide, by decide, by decide⟩))
    · rcases h with h | ⟨t, hsg, h⟩
      · omega
      · have hb : BodyL t.data.toList := by
          rcases h with ⟨_, h⟩ | ⟨_, h⟩
          · exact h.body
          · exact .inr h.list
        rcases hsg with h | ⟨c, hc, h⟩
        · exact asked_num hb (.inl h.symm)
        · rcases hc with rfl | rfl
          · exact asked_num hb (.inr h)
          · exact absurd (by rw [h]; rfl) hp
  · exact .inr (.inr ⟨by omega, 0, 0, bad_letter h⟩)
theorem pfc_float {s : ByteArray} (h : FloatN s) (hz : s.size ≤ 1000) : PFC s := parse27 s (asked_float h) hz
end Go.Proofs.YtpajcfkldnbpfaaGreatDoor
