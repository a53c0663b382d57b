/- FnVisitsTree. The reading of a tree, opened. -/
import Derived.Test.YtpajcfkldnbpfaaGreatDoorV28
import Derived.Test.YtpajcfkldnbpfaaGreatDoorV13
import Derived.BigFrame
import Derived.SizedLaws
import Derived.ChangeArms
import Derived.ChangeSame
set_option linter.unusedSimpArgs false
set_option linter.unusedVariables false
namespace Go.Proofs.YtpajcfkldnbpfaaGreatDoor
open Go.RowKit
def SomeBol (w : World) (e : Ending) (w' : World) : Prop := ∃ b : Bool, e = .returned (.bool b) ∧ Below w.heap.size w w'
set_option maxRecDepth 100000 in
set_option maxHeartbeats 1000000 in
theorem fits1_any (h : TH) (p : Option Addr) (n c : Nat) (w0 : World) (hi : TIn h) : Calls Tryz.prog 5 #[tval h (.slice p n c)] w0 (SomeBol w0) := by
  have hst := St.nil w0.heap.size ⟨[], []⟩ w0 (Nat.le_refl _)
  unfold tval
  have hi1 := hi.1
  have hi2 := hi.2.1
  have hi3 := hi.2.2
  go_enter Tryz.func5, Tryz.ntmps5
  go_upto_region 3 with ((first | ((with_reducible refine at_load ?_); first | refine X1 hst ?_ | refine XW hst ?_) | ((with_reducible refine at_store ?_); (first | refine Y1 hst ?_ | refine YW hst ?_); clear hst; intro w hst) | ((first | ((with_reducible refine at_alloc ?_); refine ZP hst ?_) | ((with_reducible refine at_box ?_); refine ZP hst ?_) | ((with_reducible refine at_bslice ?_); refine ZS hst ?_)); clear hst; (intro b0 w hb0 hst))))
  · exact ret_tmp rfl rfl rfl ⟨_, rfl, hst.kp.below⟩
  go_upto_region 5 with ((first | ((with_reducible refine at_load ?_); first | refine X1 hst ?_ | refine XW hst ?_) | ((with_reducible refine at_store ?_); (first | refine Y1 hst ?_ | refine YW hst ?_); clear hst; intro w hst) | ((first | ((with_reducible refine at_alloc ?_); refine ZP hst ?_) | ((with_reducible refine at_box ?_); refine ZP hst ?_) | ((with_reducible refine at_bslice ?_); refine ZS hst ?_)); clear hst; (intro b0 w hb0 hst))))
  · exact ret_tmp rfl rfl rfl ⟨_, rfl, hst.kp.below⟩
  go_upto_region 7 with ((first | ((with_reducible refine at_load ?_); first | refine X1 hst ?_ | refine XW hst ?_) | ((with_reducible refine at_store ?_); (first | refine Y1 hst ?_ | refine YW hst ?_); clear hst; intro w hst) | ((first | ((with_reducible refine at_alloc ?_); refine ZP hst ?_) | ((with_reducible refine at_box ?_); refine ZP hst ?_) | ((with_reducible refine at_bslice ?_); refine ZS hst ?_)); clear hst; (intro b0 w hb0 hst))))
  · exact ret_tmp rfl rfl rfl ⟨_, rfl, hst.kp.below⟩
  go_wp2_with ((first | ((with_reducible refine at_load ?_); first | refine X1 hst ?_ | refine XW hst ?_) | ((with_reducible refine at_store ?_); (first | refine Y1 hst ?_ | refine YW hst ?_); clear hst; intro w hst) | ((first | ((with_reducible refine at_alloc ?_); refine ZP hst ?_) | ((with_reducible refine at_box ?_); refine ZP hst ?_) | ((with_reducible refine at_bslice ?_); refine ZS hst ?_)); clear hst; (intro b0 w hb0 hst))))
  · exact ret_tmp rfl rfl rfl ⟨_, rfl, hst.kp.below⟩
  · exact ret_tmp rfl rfl rfl ⟨_, rfl, hst.kp.below⟩
section
variable {P : Program} {ops : Array Oper} {rest : List Oper} {Q : Exit → Act → World → Prop} {a : Act} {w : World}
theorem at_gl {d : Option Tmp} {T ty : TypeId} {x : Operand} {ps : String} {af : Array Edge} {g : Nat × Bool} (h : WL P ops Q (⟨d, .load T x, ty, ps, af, some g⟩ :: rest) a w) : wpList P ops Q (⟨d, .load T x, ty, ps, af, some g⟩ :: rest) a w := h
theorem wl_gl {d : Option Tmp} {T ty : TypeId} {x : Operand} {ps : String} {af : Array Edge} {g : Nat × Bool} {p : Addr} {v : Value} (hr : (loadVar T p).run P w = .ok v w) (hx : a.eval x = .pointer (some p)) (hw : Region.wanted ⟨d, .load T x, ty, ps, af, some g⟩ (yielded ops a.tmps) = true) (h : wpList P ops Q rest (a.put d v) w) : WL P ops Q (⟨d, .load T x, ty, ps, af, some g⟩ :: rest) a w :=
  BigFrame.wpList_want hw fun K hK => by
    have := ex_load (o := ⟨d, .load T x, ty, ps, af, some g⟩) rfl hx hr
    unfold Oper.wp
    rw [this]
    exact hK _ _ h
end
def nameV : ByteArray := ⟨#[70, 110, 86, 105, 115, 105, 116, 115, 84, 114, 101, 101]⟩
set_option maxRecDepth 100000 in
set_option maxHeartbeats 20000000 in
theorem fnVisits_any (hF : FloatsOK) (hPF : ∀ s, FloatN s → PFC s) (hL : LeftC nameV) (h : TH) (k : F TH) (p : Option Addr) (c : Nat) (w0 : World) (hi : TIn h) (hk : FIn k) (hkc : k.len ≤ c) (hs : Sl TS (fun b _ => b < w0.heap.size) w0 p k) (hT : Tabs w0) : Calls Tryz.prog 3 #[tval h (.slice p k.len c)] w0 (TrueR w0) := by
  have HS := Lib.hid (And.intro hi (And.intro hk (And.intro hkc (And.intro hs hT))))
  clear hi hk hkc hs hT
  have hst := St.nil w0.heap.size ⟨[], []⟩ w0 (Nat.le_refl _)
  unfold tval
  go_enter Tryz.func3, Tryz.ntmps3
  go_wp2_with ((first | ((with_reducible refine at_load ?_); first | refine X1 hst ?_ | refine XW hst ?_) | ((with_reducible refine at_store ?_); (first | refine Y1 hst ?_ | refine YW hst ?_); clear hst; intro w hst) | ((first | ((with_reducible refine at_alloc ?_); refine ZP hst ?_) | ((with_reducible refine at_box ?_); refine ZP hst ?_) | ((with_reducible refine at_bslice ?_); refine ZS hst ?_)); clear hst; (first | ((fail_if_success have := b0); intro b0 w hb0 hst) | ((fail_if_success have := b1); intro b1 w hb1 hst) | ((fail_if_success have := b2); intro b2 w hb2 hst) | ((fail_if_success have := b3); intro b3 w hb3 hst) | ((fail_if_success have := b4); intro b4 w hb4 hst) | ((fail_if_success have := b5); intro b5 w hb5 hst) | ((fail_if_success have := b6); intro b6 w hb6 hst) | (intro b7 w hb7 hst)))))
  refine (fits1_any h p k.len c _ HS.out.1).mono ?_
  rintro e w1 ⟨b, rfl, hb⟩
  replace hst := hst.below hb
  clear hb
  cases b
  · go_wp2_with ((first | ((with_reducible refine at_load ?_); first | refine X1 hst ?_ | refine XW hst ?_) | ((with_reducible refine at_store ?_); (first | refine Y1 hst ?_ | refine YW hst ?_); clear hst; intro w hst)))
    exact ret_tmp rfl rfl rfl ⟨rfl, hst.kp.below⟩
  · go_wp2_with ((first | ((with_reducible refine at_load ?_); first | refine X1 hst ?_ | refine XW hst ?_) | ((with_reducible refine at_store ?_); (first | refine Y1 hst ?_ | refine YW hst ?_); clear hst; intro w hst)))
    refine (trNode_any h k p c _ HS.out.1 HS.out.2.1 HS.out.2.2.1 (HS.out.2.2.2.1.hold (Hold.kp hst.kp fun b t h => ⟨.inl h, Nat.lt_of_lt_of_le h hst.kp.size⟩))).mono ?_
    rintro e w2 ⟨hT, kT, pT, cT, hn, kn, pn, cn, rfl, hslT, hccT, hokT, hszT, hsln, hccn, hszn, hplus, hb⟩
    have HCALL := Lib.hid hst
    have hst2 := hst.below hb
    obtain ⟨bs0, hbs0, hwa⟩ := hst2.watchEx
    have HST2 := Lib.hid (And.intro hst2 hbs0)
    have HQ := Lib.hid (And.intro hslT (And.intro hccT (And.intro hokT (And.intro hszT (And.intro hsln (And.intro hccn (And.intro hszn hplus)))))))
    clear hst hst2 hbs0 hslT hccT hokT hsln hccn hplus hb
    have hst := hwa
    clear hwa
    unfold nval tval
    go_wp2_with ((first | ((with_reducible refine at_load ?_); first | refine X1 hst ?_ | refine XW hst ?_) | ((with_reducible refine at_store ?_); (first | refine Y1 hst ?_ | refine YW hst ?_); clear hst; intro w hst) | ((first | ((with_reducible refine at_alloc ?_); refine ZP hst ?_) | ((with_reducible refine at_box ?_); refine ZP hst ?_) | ((with_reducible refine at_bslice ?_); refine ZS hst ?_)); clear hst; (first | ((fail_if_success have := b0); intro b0 w hb0 hst) | ((fail_if_success have := b1); intro b1 w hb1 hst) | ((fail_if_success have := b2); intro b2 w hb2 hst) | ((fail_if_success have := b3); intro b3 w hb3 hst) | ((fail_if_success have := b4); intro b4 w hb4 hst) | ((fail_if_success have := b5); intro b5 w hb5 hst) | ((fail_if_success have := b6); intro b6 w hb6 hst) | (intro b7 w hb7 hst)))))
    have hbs : bs0 = [b0] := HST2.out.2
    have hfull := HST2.out.1.unwatchBs HST2.out.2 hst
    have HFL := Lib.hid (And.intro hfull (HQ.out.1.hold (Fresh.stay (E := 24) HCALL.out ⟨[], by rw [hbs]; rfl⟩ hst List.not_mem_nil)))
    have HBS := Lib.hid hbs
    clear hfull hbs
    refine (trLeft_any nameV hL _ hT kT _ pT cT _ (Nat.lt_succ_self _) (by omega) HFL.out.2 HQ.out.2.2.1.1 HQ.out.2.2.1.2 (HS.out.2.2.2.2.below HFL.out.1.kp.below)).mono ?_
    rintro e w3 ⟨b, rfl, hbn, hb⟩
    replace hst := hst.below hb
    have HBN := Lib.hid hbn
    clear hb hbn
    cases b
    · obtain ⟨hnp, hnpa⟩ := HBN.out rfl
      obtain ⟨hok, hall⟩ := HQ.out.2.2.2.2.2.2.2 hnp hnpa
      have hfull := HST2.out.1.unwatchBs HST2.out.2 hst
      have HV := Lib.hid (visitsTree_any hF hPF _ hn kn pn cn w3 ⟨HQ.out.2.2.2.2.1.hold (Fresh.stay (E := 31) HCALL.out ⟨[], by rw [HBS.out]; rfl⟩ hst List.not_mem_nil), HS.out.2.2.2.2.below hfull.kp.below⟩ HQ.out.2.2.2.2.2.1 hok hall (by omega))
      have HSN := Lib.hid (HQ.out.2.2.2.2.1.hold (Fresh.stay (E := 31) HCALL.out ⟨[], by rw [HBS.out]; rfl⟩ hst List.not_mem_nil))
      have HF3 := Lib.hid hfull
      clear hnp hnpa hok hall hfull
      go_wp2_with ((first | ((with_reducible refine at_load ?_); first | refine X1 hst ?_ | refine XW hst ?_) | ((with_reducible refine at_store ?_); (first | refine Y1 hst ?_ | refine YW hst ?_); clear hst; intro w hst)))
      refine HV.out.mono ?_
      rintro e w4 ⟨g, cap, f', sp, hal, rfl, hlg, hgb, hb⟩
      have hz3 := hst.kp.size
      have hst4 := (HF3.out).addNew hb hlg hgb
      have HB1 := Lib.hid (hst4.blk (b := b1) (by (repeat' (first | exact List.Mem.head _ | apply List.Mem.tail)); done))
      have HBG := Lib.hid hgb
      have HAL := Lib.hid (And.intro hal (And.intro (HSN.out.lt hb) (hst4.kp.below)))
      have HLEN : f'.length ≤ 1000 := by
        have e3 : (hn :: kn.flat).length = kn.size + 1 := by simp [F.flat_length]
        rw [← HAL.out.1.length, e3]
        omega
      clear hal hlg hgb hb hst hst4 HFL HV HSN HF3 HBN HST2 HCALL HBS
      have hst := St.nil w4.heap.size ⟨[], []⟩ w4 (Nat.le_refl _)
      generalize (Value.agg ([.int .i64 hn.kind, .int .i64 hn.typ, .string hn.value, .string hn.text, .string hn.text, .string ByteArray.empty, .bool hn.flow, .bool false, .bool false, .int .i64 1, .int .i64 hn.col, .int .i64 hn.off, .int .i64 0, .int .i64 0, .slice none 0 0, .slice none 0 0, .slice none 0 0, .slice none 0 0, .slice pn kn.len cn] : List Value).toArray) = X1
      generalize (Value.agg ([.int .i64 hT.kind, .string hT.v, .string hT.a, .string hT.t, .int .i64 hT.st, .slice pT kT.len cT] : List Value).toArray) = X2
      generalize (Value.tuple #[X1, X2]) = X3
      as_aux_lemma =>
      go_upto_region 7 with ((first | ((with_reducible refine at_load ?_); first | refine X1 hst ?_ | refine XW hst ?_) | ((with_reducible refine at_store ?_); (first | refine Y1 hst ?_ | refine YW hst ?_); clear hst; intro w hst) | ((first | ((with_reducible refine at_alloc ?_); refine ZP hst ?_) | ((with_reducible refine at_box ?_); refine ZP hst ?_) | ((with_reducible refine at_bslice ?_); refine ZS hst ?_)); clear hst; (first | ((fail_if_success have := b0); intro b0 w hb0 hst) | ((fail_if_success have := b1); intro b1 w hb1 hst) | ((fail_if_success have := b2); intro b2 w hb2 hst) | ((fail_if_success have := b3); intro b3 w hb3 hst) | ((fail_if_success have := b4); intro b4 w hb4 hst) | ((fail_if_success have := b5); intro b5 w hb5 hst) | ((fail_if_success have := b6); intro b6 w hb6 hst) | (intro b7 w hb7 hst)))))
      have hld : (loadVar 31 ⟨b1, 0, none⟩).run Tryz.prog w = .ok (.agg ([.int .i64 hn.kind, .int .i64 hn.typ, .string hn.value, .string hn.text, .string hn.text, .string ByteArray.empty, .bool hn.flow, .bool false, .bool false, .int .i64 1, .int .i64 hn.col, .int .i64 hn.off, .int .i64 0, .int .i64 0, .slice none 0 0, .slice none 0 0, .slice none 0 0, .slice none 0 0, .slice pn kn.len cn] : List Value).toArray) w := run_load_cells (by exact agg_of rfl rfl) (fun j v hv => by simpa using (HB1.out.below hst.kp.below).cell hv)
      have c0 := hst.cell (b := b2) (off := 0) (by (repeat' (first | exact List.Mem.head _ | apply List.Mem.tail)); done) rfl
      go_wp2_with ((with_reducible refine at_gl ?_); refine wl_gl hld rfl rfl ?_)
      refine (visitedN_any (kn.size + 1) hn kn _ pn cn _ (Nat.lt_succ_self _) (by omega) (HAL.out.2.1.lt hst.kp.below)).mono ?_
      rintro e w5 ⟨g2, cap2, sp2, rfl, hgr, hst2⟩
      go_wp2_with fail
      have hcall := sameNodes_any f' (hn :: kn.flat) HAL.out.1 g g2 cap cap2 sp sp2 w5 ((HBG.out.below hst.kp.below).below hst2.kp.below) (hst2.blk (by (repeat' (first | exact List.Mem.head _ | apply List.Mem.tail)); done)) HLEN
      rw [← HAL.out.1.length] at hcall
      simp only [List.length_cons] at hcall
      refine hcall.mono ?_
      rintro e w6 ⟨rfl, hb6⟩
      go_wp2_with fail
      have h04 := HAL.out.2.2.size
      have h45 := hst.kp.below.size
      have h56 := hst2.kp.below.size
      exact ret_tmp rfl rfl rfl ⟨rfl, (HAL.out.2.2.trans (hst.kp.below.mono h04)).trans ((hst2.kp.below.mono (by omega)).trans (hb6.mono (by omega)))⟩
    · go_wp2_with fail
      exact ret_tmp rfl rfl rfl ⟨rfl, (HST2.out.1.unwatchBs HST2.out.2 hst).kp.below⟩
end Go.Proofs.YtpajcfkldnbpfaaGreatDoor
namespace Go.Proofs.YtpajcfkldnbpfaaGreatDoor
open Go.RowKit
section
variable {H : Type} {enc : TypeId × Value → H}
def Opened (W : World) (cs : List Value) : Prop := ∃ (h : TH) (k : F TH) (p : Option Addr) (c : Nat), cs = TS.C h (.slice p k.len c) ∧ k.len ≤ c ∧ Sl TS (fun b _ => b < W.heap.size) W p k ∧ TIn h ∧ FIn k
theorem weightsAll_mem {P : Program} {e : TypeId} : ∀ {ds : List (DataW H)} {i : Nat} {d : DataW H}, ds[i]? = some d → ∀ n ∈ d.weights P e, n ∈ DataW.weightsAll P e ds
  | [], _, _, h, _, _ => by simp at h
  | d0 :: ds, 0, d, h, n, hn => by
    simp only [List.getElem?_cons_zero, Option.some.injEq] at h
    subst h
    simp only [DataW.weightsAll, List.mem_append]
    exact .inl hn
  | d0 :: ds, i + 1, d, h, n, hn => by
    simp only [List.getElem?_cons_succ] at h
    simp only [DataW.weightsAll, List.mem_append]
    exact .inr (weightsAll_mem h n hn)
theorem addr_plain (b o k : Nat) : (⟨b, o, none⟩ : Addr).add k = ⟨b, o + k, none⟩ := by
  cases k with
  | zero => rfl
  | succ k => rfl
theorem open_row {W : World} {b : Nat} {cs : Array Value} {t : TypeId} {fr : Nat × Nat} {o len : Nat} (hb : W.heap[b]? = some (.cells cs t fr)) (hs : ∀ i, i < len → ∃ l, l.length = 6 ∧ (∀ j, j < 6 → W.cell? ⟨b, o + i * 6 + j, none⟩ = l[j]?) ∧ Opened W l) : ∀ r : Nat, r ≤ len → ∃ f : F TH, f.len = r ∧ Row TS (fun b _ => b < W.heap.size) W (cs.toList.drop (o + (len - r) * 6)) f ∧ f.all (fun h k => TIn h ∧ k.len ≤ 140737488355328) := by
  intro r
  induction r with
  | zero => intro _; exact ⟨.nil, rfl, trivial, trivial⟩
  | succ r ih =>
    intro hr
    obtain ⟨f, hfl, hrow, hall⟩ := ih (by omega)
    obtain ⟨l, hl, hc, h, k, p, c, rfl, hkc, hsl, hti, hfi⟩ := hs (len - (r + 1)) (by omega)
    refine ⟨.cons h k f, by simp [F.len, hfl], ?_, ⟨hti, hfi.1⟩, hfi.2, hall⟩
    refine ⟨p, c, cs.toList.drop (o + (len - r) * 6), ?_, hkc, hsl, hrow⟩
    apply List.ext_getElem?
    intro j
    by_cases hj : j < 6
    · have h1 := hc j hj
      rw [List.getElem?_append_left (by rw [hl]; exact hj), List.getElem?_drop, ← h1]
      simp [World.cell?, hb]
    · rw [List.getElem?_append_right (by rw [hl]; omega), hl, List.getElem?_drop, List.getElem?_drop]
      congr 1
      omega
set_option maxRecDepth 100000 in
theorem open_tree {W : World} : ∀ (n : Nat) (cs : List Value) (x : DataW H × List MemPlace), DataW.trod enc Tryz.prog W 0 (fun _ => true) true n 24 cs = some x → (∀ m ∈ x.1.weights Tryz.prog 24, m ≤ reachBytes) → Opened W cs := by
  intro n
  induction n using Nat.strongRecOn with
  | _ n ih =>
    intro cs x hx hw
    obtain ⟨xs, n1, rfl, rfl, hcl, hxl, hf⟩ := DataW.trod_struct Tryz.underlying24 hx
    have c24 : Tryz.prog.cellsOf 24 = 6 := by kernel_rfl
    have c3 : Tryz.prog.cellsOf 3 = 1 := by kernel_rfl
    have c9 : Tryz.prog.cellsOf 9 = 1 := by kernel_rfl
    have c22 : Tryz.prog.cellsOf 22 = 1 := by kernel_rfl
    have b24 : Tryz.prog.bytesOf 24 = 88 := by kernel_rfl
    rw [c24] at hcl
    simp at hxl
    match cs, hcl with
    | [v0, v1, v2, v3, v4, v5], _ =>
      match xs, hxl with
      | [x0, x1, x2, x3, x4, x5], _ =>
        have h0 := hf 0 _ rfl
        have h1 := hf 1 _ rfl
        have h2 := hf 2 _ rfl
        have h3 := hf 3 _ rfl
        have h4 := hf 4 _ rfl
        have h5 := hf 5 _ rfl
        simp [c3, c9, c22] at h0 h1 h2 h3 h4 h5
        obtain ⟨i0, e0, e0', _⟩ := DataW.trod_int Tryz.underlying3 h0
        obtain ⟨s1, e1, e1', _⟩ := DataW.trod_string Tryz.underlying9 h1
        obtain ⟨s2, e2, e2', _⟩ := DataW.trod_string Tryz.underlying9 h2
        obtain ⟨s3, e3, e3', _⟩ := DataW.trod_string Tryz.underlying9 h3
        obtain ⟨i4, e4, e4', _⟩ := DataW.trod_int Tryz.underlying3 h4
        subst e0' e1' e2' e3' e4'
        simp at e0 e1 e2 e3 e4
        subst e0 e1 e2 e3 e4
        have hr : reachBytes < 140737488355328 := reachBytes_lt
        simp [DataW.weights, Tryz.underlying24, DataW.weightsEach] at hw
        have hT : TIn ⟨i0, s1, s2, s3, i4⟩ := by
          obtain ⟨a1, a2, a3, _⟩ := hw
          refine ⟨?_, ?_, ?_⟩ <;> simp <;> omega
        rcases DataW.trod_slice Tryz.underlying22 h5 with ⟨e5, -⟩ | ⟨a, len, cap, elems, rest, m, rfl, e5, rfl, -, hlc, -, hel, hat, -, -⟩
        · simp at e5
          subst e5
          exact ⟨⟨i0, s1, s2, s3, i4⟩, .nil, none, 0, rfl, Nat.le_refl _, .inl rfl, hT, ⟨Nat.zero_le _, trivial⟩⟩
        · simp at e5
          subst e5
          rw [c24] at hat
          have hlen : len ≤ 140737488355328 := by
            have := hw.2.2.2
            simp [DataW.weights, Tryz.underlying22, b24] at this
            have := this.1
            omega
          by_cases h0 : len = 0
          · subst h0
            exact ⟨⟨i0, s1, s2, s3, i4⟩, .nil, some a, cap, rfl, Nat.zero_le _, .inl rfl, hT, ⟨Nat.zero_le _, trivial⟩⟩
          · have hc0 : ∃ v, W.cell? a = some v := by
              have h1 := hat 0 (by omega)
              rw [List.getElem?_eq_getElem (by omega : 0 < elems.length), Option.bind_eq_some_iff] at h1
              obtain ⟨l, hl, ht⟩ := h1
              obtain ⟨-, hl6, hlc⟩ := World.cells?_some hl
              have h2 := hlc 0 (by omega)
              rw [List.getElem?_eq_getElem (by omega : 0 < l.length)] at h2
              exact ⟨_, by simpa [Addr.add] using h2⟩
            obtain ⟨v0, hc0⟩ := hc0
            have hsp := World.cell?_spot hc0
            obtain ⟨b, o, sp⟩ := a
            simp only at hsp
            subst hsp
            have hbl : ∃ cs t fr, W.heap[b]? = some (.cells cs t fr) := by
              simp only [World.cell?] at hc0
              split at hc0
              · exact ⟨_, _, _, ‹_›⟩
              · cases hc0
            obtain ⟨cs, t, fr, hb⟩ := hbl
            have hs2 : ∀ i, i < len → ∃ l, l.length = 6 ∧ (∀ j, j < 6 → W.cell? ⟨b, o + i * 6 + j, none⟩ = l[j]?) ∧ Opened W l := fun i hi => by
              have h1 := hat i hi
              have hi2 : i < elems.length := by omega
              rw [List.getElem?_eq_getElem hi2, Option.bind_eq_some_iff] at h1
              obtain ⟨l, hl, ht⟩ := h1
              obtain ⟨-, hl6, hlc⟩ := World.cells?_some hl
              refine ⟨l, hl6, fun j hj => ?_, ih m (by omega) l _ ht fun n hn => ?_⟩
              · have h3 := hlc j hj
                rw [addr_plain, addr_plain] at h3
                exact h3
              · have := hw.2.2.2
                simp [DataW.weights, Tryz.underlying22] at this
                refine this.2 n (.inl (weightsAll_mem (i := i) (d := (elems[i]).1) ?_ n hn))
                rw [List.getElem?_map, List.getElem?_eq_getElem hi2]
                rfl
            obtain ⟨f, hfl, hrow, hall⟩ := open_row hb hs2 len (Nat.le_refl _)
            have hlt : b < W.heap.size := by
              rcases Nat.lt_or_ge b W.heap.size with h | h
              · exact h
              · rw [Array.getElem?_eq_none h] at hb; cases hb
            refine ⟨⟨i0, s1, s2, s3, i4⟩, f, some ⟨b, o, none⟩, cap, by rw [hfl]; rfl, by rw [hfl]; assumption, .inr ⟨b, o, cs, t, fr, rfl, hb, hlt, ?_⟩, hT, ⟨by rw [hfl]; exact hlen, hall⟩⟩
            simpa using hrow
end
end Go.Proofs.YtpajcfkldnbpfaaGreatDoor
