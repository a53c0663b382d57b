/- ShiftTree. FnShiftTree. -/
import Derived.Test.YtpajcfkldnbpfaaGreatDoorS08
import Derived.Test.YtpajcfkldnbpfaaGreatDoorS07
import Derived.Test.YtpajcfkldnbpfaaGreatDoorS03
set_option linter.unusedSimpArgs false
set_option linter.unusedVariables false
namespace Go.Proofs.YtpajcfkldnbpfaaGreatDoor
open Go.RowKit
theorem catch_idle2 (p q : Value) (w : World) : CallsD Tryz.prog 22 #[p, q] .returning w fun e u' w' => e = .returned (.tuple #[]) ∧ u' = .returning ∧ w' = w := by
  refine callsD_of_wpS Tryz.func22 rfl fun c₀ cs hu => ?_
  apply wpS_seq
  apply wpS_region
  simp [wpOpsS, go_sem, recoverD, hu, Tryz.ntmps22, Exit.thenS]
  refine wpS_cond (t := false) (by simp [Act.eval, Array.replicate]) ?_
  simp only [Bool.false_eq_true, if_false]
  refine wpS_of_wp (wp_skip ?_)
  cases c₀
  simp_all [bodyPostS, results, Tryz.results22]
theorem St.unwatchBs2 {B : Nat} {Ts : Ch} {w0 w1 w : World} {L L' : Rws} (h : St B Ts w0 w1 L) (hTs : Ts.bs = []) (hL : (L.all fun x => !Ts.ts.contains x.2.2) = true) {bs : List Nat} (hbs : bs = L.filterMap (·.1)) (h2 : St B ⟨Ts.ts, bs⟩ w1 w L') : St B Ts w0 w L' :=
  h.unwatch h2 fun b hb => by
    subst hbs
    obtain ⟨⟨x, l, t⟩, hx, e⟩ := List.mem_filterMap.1 hb
    simp only at e
    subst e
    have h3 := List.all_eq_true.1 hL _ hx
    rcases (h.rows b l t hx).2 with h5 | ⟨_, h5 | h5⟩
    · exact h5
    · simp [h5] at h3
    · rw [hTs] at h5; cases h5
def ShiftR (d : Int) (h : NH) (k : F NH) (w0 : World) (e : Ending) (w' : World) : Prop := ∃ (h' : NH) (k' : F NH) (p : Option Addr) (c : Nat), SameH d h h' ∧ AlF d k k' ∧ e = .returned (.tuple #[nval h' (.slice p k'.len c), .agg #[.int .i64 0, .int .i64 0, .int .i64 0, .int .i64 0, .int .i64 0, .int .i64 0]]) ∧ k'.len ≤ c ∧ Sl NS (NewN w0.heap.size) w' p k' ∧ Below w0.heap.size w0 w'
set_option maxRecDepth 100000 in
set_option maxHeartbeats 4000000 in
theorem shiftTree_any (hF : FloatsOK) (hPF : ∀ s, FloatN s → PFC s) (A : Nat → Nat → Prop) (h : NH) (k : F NH) (p : Option Addr) (c : Nat) (d : Int) (d0 : 0 ≤ d) (d1 : d ≤ 99) (w0 : World) (hs : SlT A w0 p k) (hkc : k.len ≤ c) (hok : NOK h k) (hall : k.all NOK) (hsz : k.size ≤ 900) : Calls Tryz.prog 11 #[nval h (.slice p k.len c), .int .i64 d] w0 (ShiftR d h k w0) := by
  have hmf : ∀ (fn : Fn) (first cap : Array Value) (w : World), (Instr.makeFunc fn first cap).run Tryz.prog w = .ok (.func fn first cap) w := fun _ _ _ _ => rfl
  have HBC := Lib.hid (build_all hPF _ h k (Nat.lt_succ_self _) (by omega) hok hall)
  have HAC := Lib.hid (And.intro hok.kinds (add_all _ h k (Nat.lt_succ_self _) hsz hok hall))
  have HS := Lib.hid (And.intro hs (And.intro hkc (And.intro hok (And.intro hall (And.intro d0 d1)))))
  clear hs hkc hok hall d0 d1
  have hst := St.nil w0.heap.size ⟨[186], []⟩ w0 (Nat.le_refl _)
  unfold nval
  go_enter_defers Tryz.func11, Tryz.ntmps11
  go_wp2_with ((first | ((with_reducible refine at_load ?_); first | refine X1 hst ?_ | refine XW hst ?_) | ((with_reducible refine at_store ?_); (first | refine Y1 hst ?_ | refine YW hst ?_); clear hst; intro w hst) | ((first | ((with_reducible refine at_alloc ?_); refine ZP hst ?_) | ((with_reducible refine at_box ?_); refine ZP hst ?_) | ((with_reducible refine at_bslice ?_); refine ZS hst ?_)); clear hst; (first | ((fail_if_success have := b0); intro b0 w hb0 hst) | ((fail_if_success have := b1); intro b1 w hb1 hst) | ((fail_if_success have := b2); intro b2 w hb2 hst) | (intro b3 w hb3 hst)))))
  refine (HBC.out A p c _ (HS.out.1.lt hst.kp.below) HS.out.2.1 HS.out.2.2.1 HS.out.2.2.2.1).mono ?_
  rintro e w1 ⟨b, rfl, hast, hb⟩
  obtain ⟨lo, hi, hlo, hast1⟩ : ∃ lo hi, w0.heap.size ≤ lo ∧ AstN w1 0 lo hi (.cons h k .nil) [b] := ⟨_, _, hst.kp.size, hast w1 (Agree.refl _ _)⟩
  replace hst := hst.below hb
  have HC := Lib.hid (HAC.out.2 d b lo hi w1 HS.out.2.2.2.2.1 HS.out.2.2.2.2.2 hast1)
  have HST := Lib.hid (And.intro hst hlo)
  clear hast hast1 hb hst hlo
  unfold nodeV
  go_upto_region 3 with fail
  generalize hkd : h.kind = kd
  go_cut [12] from 10 to 12 (fun _ wx => Sh lo hi w1 wx ∧ AstN wx d lo hi (.cons h k .nil) [b])
  case first =>
    have hC := HC.out
    (rcases HAC.out.1 with g | g | g | g | g | g | g | g | g | g | g | g | g | g)
    all_goals
      rw [g] at hC hkd
      subst hkd
      have HC2 := Lib.hid hC
      clear hC g
      simp only [tyOf, addF] at HC2 ⊢
      go_wp2_with fail
      refine HC2.out.mono ?_
      rintro e w2 ⟨rfl, h3, h4⟩
      have HR := Lib.hid (And.intro h3 h4)
      clear h3 h4
      go_wp2_with fail
      go_meet
      case rel => exact HR.out
  case rest =>
  subst hkd
  have hst := HST.out.1.keep hcut.1.kp HST.out.2 (fun _ h => h) rfl rfl
  have hnode := nodeB_all hF d _ h k b lo hi wc (Nat.lt_succ_self _) hsz hcut.2 HS.out.2.2.1 HS.out.2.2.2.1 (HS.out.1.2.below hst.kp.below)
  unfold nodeV at hnode
  have HN := Lib.hid hnode
  clear hnode hcut
  go_wp2_with fail
  refine HN.out.mono ?_
  rintro e w2 ⟨h', k', p', c', rfl, hsh, hal, hcc, hsl, hb⟩
  have hz := hst.kp.size
  have hsl2 := hsl.hold (KdL.new (lo := w0.heap.size) hst hz)
  replace hst := hst.below hb
  obtain ⟨bs, hbs, hwa⟩ := hst.watchEx
  have HQ := Lib.hid (And.intro hbs (And.intro hst (And.intro hsl2 (And.intro hsh (And.intro hal hcc)))))
  clear hst hbs hsl hsl2 hsh hal hcc hb hz
  have hst := hwa
  clear hwa
  unfold nval
  go_wp2_with ((first | ((with_reducible refine at_load ?_); first | refine X1 hst ?_ | refine XW hst ?_) | ((with_reducible refine at_store ?_); (first | refine Y1 hst ?_ | refine YW hst ?_); clear hst; intro w hst)))
  refine leaves_cons (f := 22) (args := #[.pointer (some ⟨b1, 0, none⟩), .pointer (some ⟨b2, 0, none⟩)]) (by simp) (by simp [go_sem]) ?_
  refine (catch_idle2 _ _ _).mono ?_
  rintro e u' w'' ⟨rfl, rfl, rfl⟩
  refine ⟨_, run_results2 rfl rfl rfl (run_load_cells (vs := [.int .i64 h'.kind, .int .i64 h'.typ, .string h'.value, .string h'.text, .string h'.text, .string ByteArray.empty, .bool h'.flow, .bool false, .bool false, .int .i64 1, .int .i64 h'.col, .int .i64 h'.off, .int .i64 0, .int .i64 0, .slice none 0 0, .slice none 0 0, .slice none 0 0, .slice none 0 0, .slice p' k'.len c']) (by exact agg_of rfl rfl) (fun j v hv => by simpa using (hst.blk (b := b1) (by (repeat' (first | exact List.Mem.head _ | apply List.Mem.tail)); done)).cell hv)) (run_load_cells (vs := [.int .i64 0, .int .i64 0, .int .i64 0, .int .i64 0, .int .i64 0, .int .i64 0]) (by exact agg_of rfl rfl) (fun j v hv => by simpa using (hst.blk (b := b2) (by (repeat' (first | exact List.Mem.head _ | apply List.Mem.tail)); done)).cell hv)), ?_⟩
  obtain ⟨hbs, hst2, hsl2, hsh, hal, hcc⟩ := HQ.out
  have hun := hst2.unwatchBs2 rfl rfl hbs hst
  exact ⟨h', k', p', c', hsh, hal, rfl, hcc, (hsl2.hold (KdL.stay hbs hst (by decide))).hold KdL.done, hun.kp.below⟩
end Go.Proofs.YtpajcfkldnbpfaaGreatDoor
namespace Go.Proofs.YtpajcfkldnbpfaaGreatDoor
open Go.RowKit
section
variable {P : Program} {ops : Array Oper} {Q : Exit → Act → World → Prop} {S : World → Prop} {o : Oper} {p : Plan} {a : Act} {w : World} {i : Nat}
theorem q_valG {v : Value} (hw : Region.wanted o (yielded ops a.tmps) = true) (hy : ∀ w, S w → (execOp a.eval o).run P w = .ok (.value v) w) (h : wpP P ops Q S p (a.put o.dst v) w) : WQ P ops Q S o p a w := ⟨v, .inl ⟨hw, hy⟩, h⟩
theorem at_eG {k : Bool} (ho : ops[i]? = some o) (hw : Region.wanted o (yielded ops a.tmps) = true) (h : WE P ops Q S o k p a w) : wpP P ops Q S (.e i k p) a w := by
  show wpOp P ops Q i _ a w
  unfold wpOp
  simp only [ho, hw, if_true]
  exact .inl h
theorem p_ldcG {T : Nat} {x : Operand} {b off : Nat} {vs : List Value} (hw : Region.wanted o (yielded ops a.tmps) = true) (hc : ∀ w, S w → ∀ j v, vs[j]? = some v → w.cell? ⟨b, off + j, none⟩ = some v) (hop : o.op = .load T x) (hx : a.eval x = .pointer (some ⟨b, off, none⟩)) (hT : aggOf P T vs.length = true)
    (h : wpP P ops Q S p (a.put o.dst (.agg vs.toArray)) w) : WQ P ops Q S o p a w :=
  q_valG hw (fun w hS => ld_cells hop hx hT (hc w hS)) h
end
theorem col_mod (n : Int) : 0 ≤ wrap64 ((IntKind.u64.wrap n).tmod 100) ∧ wrap64 ((IntKind.u64.wrap n).tmod 100) ≤ 99 := by
  have h : 0 ≤ IntKind.u64.wrap n := by
    simp only [IntKind.wrap, IntKind.signed, IntKind.bits]
    simp
    omega
  have h2 : (IntKind.u64.wrap n).tmod 100 = IntKind.u64.wrap n % 100 := Int.tmod_eq_emod_of_nonneg h
  rw [h2]
  unfold wrap64
  omega
def nameS : ByteArray := ⟨#[70, 110, 83, 104, 105, 102, 116, 84, 114, 101, 101]⟩
set_option maxRecDepth 100000 in
set_option maxHeartbeats 20000000 in
theorem fnShift_any (hF : FloatsOK) (hPF : ∀ s, FloatN s → PFC s) (hL : LeftC nameS) (n : Int) (h : TH) (k : F TH) (p : Option Addr) (c : Nat) (w0 : World) (hi : TIn h) (hk : FIn k) (hkc : k.len ≤ c) (hs : Sl TS (fun b _ => b < w0.heap.size) w0 p k) (hT : Tabs w0) : Calls Tryz.prog 4 #[tval h (.slice p k.len c), .int .i64 n] w0 (TrueR w0) := by
  have HS := Lib.hid (And.intro hi (And.intro hk (And.intro hkc (And.intro hs hT))))
  clear hi hk hkc hs hT
  have hst := St.nil w0.heap.size ⟨[], []⟩ w0 (Nat.le_refl _)
  unfold tval
  go_enter Tryz.func4, Tryz.ntmps4
  go_wp2_with ((first | ((with_reducible refine at_load ?_); first | refine X1 hst ?_ | refine XW hst ?_) | ((with_reducible refine at_store ?_); (first | refine Y1 hst ?_ | refine YW hst ?_); clear hst; intro w hst) | ((first | ((with_reducible refine at_alloc ?_); refine ZP hst ?_) | ((with_reducible refine at_box ?_); refine ZP hst ?_) | ((with_reducible refine at_bslice ?_); refine ZS hst ?_)); clear hst; (first | ((fail_if_success have := b0); intro b0 w hb0 hst) | ((fail_if_success have := b1); intro b1 w hb1 hst) | ((fail_if_success have := b2); intro b2 w hb2 hst) | ((fail_if_success have := b3); intro b3 w hb3 hst) | ((fail_if_success have := b4); intro b4 w hb4 hst) | ((fail_if_success have := b5); intro b5 w hb5 hst) | ((fail_if_success have := b6); intro b6 w hb6 hst) | ((fail_if_success have := b7); intro b7 w hb7 hst) | ((fail_if_success have := b8); intro b8 w hb8 hst) | ((fail_if_success have := b9); intro b9 w hb9 hst)))))
  refine (fits1_any h p k.len c _ HS.out.1).mono ?_
  rintro e w1 ⟨b, rfl, hb⟩
  replace hst := hst.below hb
  clear hb
  cases b
  · go_wp2_with ((first | ((with_reducible refine at_load ?_); first | refine X1 hst ?_ | refine XW hst ?_) | ((with_reducible refine at_store ?_); (first | refine Y1 hst ?_ | refine YW hst ?_); clear hst; intro w hst)))
    exact ret_tmp rfl rfl rfl ⟨rfl, hst.kp.below⟩
  · go_wp2_with ((first | ((with_reducible refine at_load ?_); first | refine X1 hst ?_ | refine XW hst ?_) | ((with_reducible refine at_store ?_); (first | refine Y1 hst ?_ | refine YW hst ?_); clear hst; intro w hst)))
    refine (trNode_any h k p c _ HS.out.1 HS.out.2.1 HS.out.2.2.1 (HS.out.2.2.2.1.hold (Hold.kp hst.kp fun b t h => ⟨.inl h, Nat.lt_of_lt_of_le h hst.kp.size⟩))).mono ?_
    rintro e w2 ⟨hT, kT, pT, cT, hn, kn, pn, cn, rfl, hslT, hccT, hokT, hszT, hsln, hccn, hszn, hplus, hb⟩
    have HCALL := Lib.hid hst
    have hst2 := hst.below hb
    obtain ⟨bs0, hbs0, hwa⟩ := hst2.watchEx
    have HST2 := Lib.hid (And.intro hst2 hbs0)
    have HQ := Lib.hid (And.intro hslT (And.intro hccT (And.intro hokT (And.intro hszT (And.intro hsln (And.intro hccn (And.intro hszn hplus)))))))
    clear hst hst2 hbs0 hslT hccT hokT hsln hccn hplus hb
    have hst := hwa
    clear hwa
    unfold nval tval
    go_wp2_with ((first | ((with_reducible refine at_load ?_); first | refine X1 hst ?_ | refine XW hst ?_) | ((with_reducible refine at_store ?_); (first | refine Y1 hst ?_ | refine YW hst ?_); clear hst; intro w hst) | ((first | ((with_reducible refine at_alloc ?_); refine ZP hst ?_) | ((with_reducible refine at_box ?_); refine ZP hst ?_) | ((with_reducible refine at_bslice ?_); refine ZS hst ?_)); clear hst; (first | ((fail_if_success have := b0); intro b0 w hb0 hst) | ((fail_if_success have := b1); intro b1 w hb1 hst) | ((fail_if_success have := b2); intro b2 w hb2 hst) | ((fail_if_success have := b3); intro b3 w hb3 hst) | ((fail_if_success have := b4); intro b4 w hb4 hst) | ((fail_if_success have := b5); intro b5 w hb5 hst) | ((fail_if_success have := b6); intro b6 w hb6 hst) | ((fail_if_success have := b7); intro b7 w hb7 hst) | ((fail_if_success have := b8); intro b8 w hb8 hst) | ((fail_if_success have := b9); intro b9 w hb9 hst)))))
    have hbs : bs0 = [b0] := HST2.out.2
    have hfull := HST2.out.1.unwatchBs HST2.out.2 hst
    have HFL := Lib.hid (And.intro hfull (HQ.out.1.hold (Fresh.stay (E := 24) HCALL.out ⟨[], by rw [hbs]; rfl⟩ hst List.not_mem_nil)))
    have HBS := Lib.hid hbs
    clear hfull hbs
    refine (trLeft_any nameS hL _ hT kT _ pT cT _ (Nat.lt_succ_self _) (by omega) HFL.out.2 HQ.out.2.2.1.1 HQ.out.2.2.1.2 (HS.out.2.2.2.2.below HFL.out.1.kp.below)).mono ?_
    rintro e w3 ⟨b, rfl, hbn, hb⟩
    replace hst := hst.below hb
    have HBN := Lib.hid hbn
    clear hb hbn
    cases b
    · obtain ⟨hnp, hnpa⟩ := HBN.out rfl
      obtain ⟨hok, hall⟩ := HQ.out.2.2.2.2.2.2.2 hnp hnpa
      have hfull := HST2.out.1.unwatchBs HST2.out.2 hst
      have HOK := Lib.hid (And.intro hok hall)
      have HCO := Lib.hid (show ∀ x ∈ hn :: kn.flat, 1 ≤ x.col ∧ x.col ≤ 200 from fun x hx => by
        rcases List.mem_cons.1 hx with rfl | hx
        · exact ⟨hok.1, hok.2.1⟩
        · exact flat_cols hall x hx)
      have HSN := Lib.hid (HQ.out.2.2.2.2.1.hold (Fresh.stay (E := 31) HCALL.out ⟨[], by rw [HBS.out]; rfl⟩ hst List.not_mem_nil))
      have HF3 := Lib.hid (And.intro hfull hst)
      clear hnp hnpa hok hall hfull hst
      go_upto_region 6 with fail
      go_cut [1] (fun y wx => ∃ d : Int, y = .int .i64 d ∧ 0 ≤ d ∧ d ≤ 99 ∧ wx = w3)
      case first =>
        go_wp2_with fail
        go_meet
        case rel => exact ⟨_, rfl, (col_mod n).1, (col_mod n).2, rfl⟩
      case rest =>
      obtain ⟨d, rfl, d0, d1, rfl⟩ := hcut
      have hst := HF3.out.2
      have HV := Lib.hid (shiftTree_any hF hPF _ hn kn pn cn d d0 d1 wc ⟨HSN.out, HS.out.2.2.2.2.below HF3.out.1.kp.below⟩ HQ.out.2.2.2.2.2.1 HOK.out.1 HOK.out.2 (by omega))
      go_upto_region 7 with fail
      go_wp2_with ((first | ((with_reducible refine at_load ?_); first | refine X1 hst ?_ | refine XW hst ?_) | ((with_reducible refine at_store ?_); (first | refine Y1 hst ?_ | refine YW hst ?_); clear hst; intro w hst)))
      refine HV.out.mono ?_
      rintro e w4 ⟨h', k', p', c', hsh, hal, rfl, hcc, hsl, hb⟩
      have hst4 := (HF3.out.1).below hb
      have HB1 := Lib.hid (hst4.blk (b := b1) (by (repeat' (first | exact List.Mem.head _ | apply List.Mem.tail)); done))
      have hk' := hal.size
      have HAL := Lib.hid (And.intro hsh (And.intro hal (And.intro hsl (And.intro (HSN.out.lt hb) (And.intro (hst4.kp.below) (And.intro d0 d1))))))
      clear hsh hal hsl hb hst hst4 HFL HV HSN HF3 HBN HST2 HCALL HBS
      have hst := St.nil w4.heap.size ⟨[], []⟩ w4 (Nat.le_refl _)
      unfold nval
      generalize (Value.agg ([.int .i64 hn.kind, .int .i64 hn.typ, .string hn.value, .string hn.text, .string hn.text, .string ByteArray.empty, .bool hn.flow, .bool false, .bool false, .int .i64 1, .int .i64 hn.col, .int .i64 hn.off, .int .i64 0, .int .i64 0, .slice none 0 0, .slice none 0 0, .slice none 0 0, .slice none 0 0, .slice pn kn.len cn] : List Value).toArray) = X1
      generalize (Value.agg ([.int .i64 hT.kind, .string hT.v, .string hT.a, .string hT.t, .int .i64 hT.st, .slice pT kT.len cT] : List Value).toArray) = X2
      generalize (Value.tuple #[X1, X2]) = X3
      as_aux_lemma =>
      go_upto_region 8 with ((first | ((with_reducible refine at_load ?_); first | refine X1 hst ?_ | refine XW hst ?_) | ((with_reducible refine at_store ?_); (first | refine Y1 hst ?_ | refine YW hst ?_); clear hst; intro w hst) | ((first | ((with_reducible refine at_alloc ?_); refine ZP hst ?_) | ((with_reducible refine at_box ?_); refine ZP hst ?_) | ((with_reducible refine at_bslice ?_); refine ZS hst ?_)); clear hst; (first | ((fail_if_success have := b0); intro b0 w hb0 hst) | ((fail_if_success have := b1); intro b1 w hb1 hst) | ((fail_if_success have := b2); intro b2 w hb2 hst) | ((fail_if_success have := b3); intro b3 w hb3 hst) | ((fail_if_success have := b4); intro b4 w hb4 hst) | ((fail_if_success have := b5); intro b5 w hb5 hst) | ((fail_if_success have := b6); intro b6 w hb6 hst) | ((fail_if_success have := b7); intro b7 w hb7 hst) | ((fail_if_success have := b8); intro b8 w hb8 hst) | ((fail_if_success have := b9); intro b9 w hb9 hst)))))
      refine wp_plan (fun w => St w4.heap.size ⟨[], []⟩ w4 w [(some b3, [.int .i64 0, .int .i64 0, .int .i64 0, .int .i64 0, .int .i64 0, .int .i64 0], 36), (some b2, [.int .i64 h'.kind, .int .i64 h'.typ, .string h'.value, .string h'.text, .string h'.text, .string ByteArray.empty, .bool h'.flow, .bool false, .bool false, .int .i64 1, .int .i64 h'.col, .int .i64 h'.off, .int .i64 0, .int .i64 0, .slice none 0 0, .slice none 0 0, .slice none 0 0, .slice none 0 0, .slice p' k'.len c'], 31)]) [0, 1, 2, 3, 4, 6, 8, 11, 12] (.q 0 (.q 1 (.q 2 (.q 3 (.q 4 (.q 6 (.q 8 (.e 5 true (.e 7 true (.e 9 true (.e 10 true (.q 11 (.q 12 (.fin)))))))))))))) mixed (by kernel_rfl) (by kernel_rfl) (by kernel_rfl) (fun d v c a w h => by cases d <;> exact h) (hst.drew.sub (List.Sublist.refl _)) ?_
      replace hst := hst.drew
      repeat ((refine AQ ?_); first | (refine Q1 ?_; go_frame) | (refine QV ?_; go_frame))
      (refine AQ ?_)
      refine p_ldcG (vs := [.int .i64 h'.kind, .int .i64 h'.typ, .string h'.value, .string h'.text, .string h'.text, .string ByteArray.empty, .bool h'.flow, .bool false, .bool false, .int .i64 1, .int .i64 h'.col, .int .i64 h'.off, .int .i64 0, .int .i64 0, .slice none 0 0, .slice none 0 0, .slice none 0 0, .slice none 0 0, .slice p' k'.len c']) (by rfl) (fun w hS j v hv => by simpa using (hS.blk (b := b2) (by (repeat' (first | exact List.Mem.head _ | apply List.Mem.tail)); done)).cell hv) rfl rfl (by exact agg_of rfl rfl) ?_
      go_frame
      (refine AQ ?_)
      refine p_ldcG (vs := [.int .i64 hn.kind, .int .i64 hn.typ, .string hn.value, .string hn.text, .string hn.text, .string ByteArray.empty, .bool hn.flow, .bool false, .bool false, .int .i64 1, .int .i64 hn.col, .int .i64 hn.off, .int .i64 0, .int .i64 0, .slice none 0 0, .slice none 0 0, .slice none 0 0, .slice none 0 0, .slice pn kn.len cn]) (by rfl) (fun w hS j v hv => by simpa using (HB1.out.below hS.kp.below).cell hv) rfl rfl (by exact agg_of rfl rfl) ?_
      go_frame
      (refine AQ ?_)
      refine q_valG (v := .int .i64 d) (by rfl) (fun w hS => by go_simp) ?_
      go_frame
      refine at_eG (by simp only [List.getElem?_toArray, List.getElem?_cons_succ, List.getElem?_cons_zero]; rfl) (by rfl) ?_
      refine e_call (by go_simp <;> first | rfl | exact ⟨rfl, rfl⟩ | exact ⟨⟨rfl, rfl⟩, rfl⟩) (visitedN_any (k'.size + 1) h' k' _ p' c' _ (Nat.lt_succ_self _) (by omega) (HAL.out.2.2.1.lt hst.kp.below)) ?_
      rintro e w5 ⟨g1, cap1, sp1, rfl, hgr1, hst1⟩
      replace hst := hst.below hst1.kp.below
      have HG1 := Lib.hid (hst1.blk (b := g1) (by (repeat' (first | exact List.Mem.head _ | apply List.Mem.tail)); done))
      clear hgr1 hst1
      refine ⟨_, rfl, fun _ => hst, ?_⟩
      go_frame
      refine at_eG (by simp only [List.getElem?_toArray, List.getElem?_cons_succ, List.getElem?_cons_zero]; rfl) (by rfl) ?_
      refine e_call (by go_simp <;> first | rfl | exact ⟨rfl, rfl⟩ | exact ⟨⟨rfl, rfl⟩, rfl⟩) (visitedN_any (kn.size + 1) hn kn _ pn cn _ (Nat.lt_succ_self _) (by omega) (HAL.out.2.2.2.1.lt hst.kp.below)) ?_
      rintro e w6 ⟨g2, cap2, sp2, rfl, hgr2, hst2⟩
      replace hst := hst.below hst2.kp.below
      have HG2 := Lib.hid (And.intro (HG1.out.below hst2.kp.below) (hst2.blk (b := g2) (by (repeat' (first | exact List.Mem.head _ | apply List.Mem.tail)); done)))
      clear hgr2 hst2 HG1
      refine ⟨_, rfl, fun _ => hst, ?_⟩
      go_frame
      refine at_eG (by simp only [List.getElem?_toArray, List.getElem?_cons_succ, List.getElem?_cons_zero]; rfl) (by rfl) ?_
      refine e_call (by go_simp <;> first | rfl | exact ⟨rfl, rfl⟩ | exact ⟨⟨rfl, rfl⟩, rfl⟩) (trShifted_any (hn :: kn.flat) d HAL.out.2.2.2.2.2.1 HAL.out.2.2.2.2.2.2 HCO.out g2 cap2 sp2 _ HG2.out.2 (by simp) (by simp [F.flat_length]; omega)) ?_
      rintro e w7 ⟨g3, cap3, sp3, rfl, hgr3, hst3⟩
      replace hst := hst.below hst3.kp.below
      have HG3 := Lib.hid (And.intro (HG2.out.1.below hst3.kp.below) (hst3.blk (b := g3) (by (repeat' (first | exact List.Mem.head _ | apply List.Mem.tail)); done)))
      clear hgr3 hst3 HG2
      refine ⟨_, rfl, fun _ => hst, ?_⟩
      go_frame
      refine at_eG (by simp only [List.getElem?_toArray, List.getElem?_cons_succ, List.getElem?_cons_zero]; rfl) (by rfl) ?_
      refine e_call (by go_simp <;> first | rfl | exact ⟨rfl, rfl⟩ | exact ⟨⟨rfl, rfl⟩, rfl⟩) (sameNodes_any (h' :: k'.flat) ((hn :: kn.flat).map (shN d)) ⟨HAL.out.1, HAL.out.2.1.flat⟩ g1 g3 cap1 cap3 sp1 sp3 _ HG3.out.1 HG3.out.2 (by simp [F.flat_length]; omega)) ?_
      rintro e w8 ⟨rfl, hb8⟩
      replace hst := hst.below hb8
      clear hb8 HG3
      refine ⟨_, rfl, fun _ => hst, ?_⟩
      go_frame
      repeat ((refine AQ ?_); (refine QV ?_; go_frame))
      unfold wpP
      go_wp2_with fail
      exact ret_tmp rfl rfl rfl ⟨rfl, HAL.out.2.2.2.2.1.trans (hst.kp.below.mono HAL.out.2.2.2.2.1.size)⟩
    · go_wp2_with fail
      exact ret_tmp rfl rfl rfl ⟨rfl, (HST2.out.1.unwatchBs HST2.out.2 hst).kp.below⟩
end Go.Proofs.YtpajcfkldnbpfaaGreatDoor
