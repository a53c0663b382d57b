/- The package's makers of bools, infinities and strings; what is done outside Go. bare, at the leaves. bare, where there are kids: literals, aliases, tags. bare: tags and literals. bare: anchors. -/
import Derived.Test.YtpajcfkldnbpfaaGreatDoorV13
import Derived.Laws.Externs
set_option linter.unusedSimpArgs false
set_option linter.unusedVariables false
namespace Go.Proofs.YtpajcfkldnbpfaaGreatDoor
open Go.RowKit
theorem run_frombits (n : Int) (w : World) : (callFunc 144 #[.int .u64 n]).run Tryz.prog w = .ok (.value (.float .f64 n.toNat)) w := by
  rw [run_callFunc_extern Tryz.func144 (by rfl) (by rfl) (by rfl) (by rfl)]
  rfl
theorem ret_tmp2 {P : Program} {w : World} {a : Act} {fn : Func} {R : Ending → World → Prop} {p q : Nat} {v u : Value} (hf : fn.results = #[.tmp p, .tmp q]) (hp : a.tmps.getD p undef = v) (hq : a.tmps.getD q undef = u) (hd : a.defers = []) (h : R (.returned (.tuple #[v, u])) w) : bodyPost P fn R .ret a w := by
  refine bodyPost_ret (v := .tuple #[v, u]) ?_ hd h
  have hp' : a.tmps[p]?.getD undef = v := by simpa using hp
  have hq' : a.tmps[q]?.getD undef = u := by simpa using hq
  simp [results, hf, hp', hq']
set_option maxHeartbeats 400000 in
theorem inf_any (s : Int) (w : World) (hs : s = 0 ∨ s = -1) : Calls Tryz.prog 103 #[.int .i64 s] w fun e w' => e = .returned (.float .f64 (if s = 0 then 9218868437227405312 else 18442240474082181120)) ∧ w = w' := by
  have h1 := fun n => run_frombits n
  rcases hs with rfl | rfl
  · go_enter Tryz.func103, Tryz.ntmps103
    go_wp2
    exact ret_tmp rfl rfl rfl ⟨rfl, rfl⟩
  · go_enter Tryz.func103, Tryz.ntmps103
    go_wp2
    exact ret_tmp rfl rfl rfl ⟨rfl, rfl⟩
def InfR (tk : Nat) (value : ByteArray) (w : World) (e : Ending) (w' : World) : Prop := ∃ f, NewB2 122 (fun ba => [ptr ba, ptr tk, .float .f64 f]) w e w' ∧ ((f = 9218868437227405312 ∧ value = ⟨#[43, 73, 110, 102]⟩) ∨ (f = 18442240474082181120 ∧ value = ⟨#[45, 73, 110, 102]⟩))
set_option maxRecDepth 100000 in
set_option maxHeartbeats 1000000 in
theorem infinity_any (tk pb : Nat) (h : NH) (w0 : World) (hn : InfN h.text h.value) (ht : Blk w0 tk 92 [.int .i64 h.typ, .int .i64 0, .int .i64 0, .string h.text, .string h.text, .string ByteArray.empty, ptr pb, .pointer none, .pointer none]) : Calls Tryz.prog 63 #[ptr tk] w0 (InfR tk h.value w0) := by
  have hst := St.nil w0.heap.size ⟨[], []⟩ w0 (Nat.le_refl _)
  obtain ⟨kd, ty, va, te, fl, co, of⟩ := h
  simp only at hn ht ⊢
  rcases hn with ⟨hm, rfl⟩ | ⟨hm, rfl⟩
  · simp only [infPL, List.mem_cons, List.not_mem_nil, or_false] at hm
    rcases hm with hm | hm | hm
    all_goals
      obtain rfl := of_list hm
      clear hm
      have HT := Lib.hid ht
      clear ht
      go_enter Tryz.func63, Tryz.ntmps63
      go_wp2_with (first | ((with_reducible refine at_load ?_); refine wl_ldc1 rfl rfl rfl ((HT.out.below hst.kp.below).cell (off := 3) rfl) (one_of (by decide +kernel)) ?_) | (first | ((with_reducible refine at_load ?_); first | refine X1 hst ?_ | refine XW hst ?_) | ((with_reducible refine at_store ?_); (first | refine Y1 hst ?_ | refine YW hst ?_); clear hst; intro w hst) | ((first | ((with_reducible refine at_alloc ?_); refine ZP hst ?_) | ((with_reducible refine at_box ?_); refine ZP hst ?_) | ((with_reducible refine at_bslice ?_); refine ZS hst ?_)); clear hst; (first | ((fail_if_success have := b0); intro b0 w hb0 hst) | ((fail_if_success have := b1); intro b1 w hb1 hst) | (intro b2 w hb2 hst)))))
      refine (inf_any 0 _ (.inl rfl)).mono ?_
      rintro e w1 ⟨rfl, rfl⟩
      go_wp2_with ((first | ((with_reducible refine at_load ?_); first | refine X1 hst ?_ | refine XW hst ?_) | ((with_reducible refine at_store ?_); (first | refine Y1 hst ?_ | refine YW hst ?_); clear hst; intro w hst)))
      refine ret_tmp rfl rfl rfl ?_
      exact ⟨_, ⟨b1, b0, rfl, hb1, hb0, hst.blk (by (repeat' (first | exact List.Mem.head _ | apply List.Mem.tail)); done), hst.blk (by (repeat' (first | exact List.Mem.head _ | apply List.Mem.tail)); done), hst.kp.below⟩, .inl ⟨rfl, rfl⟩⟩
  · simp only [infNL, List.mem_cons, List.not_mem_nil, or_false] at hm
    rcases hm with hm | hm | hm
    all_goals
      obtain rfl := of_list hm
      clear hm
      have HT := Lib.hid ht
      clear ht
      go_enter Tryz.func63, Tryz.ntmps63
      go_wp2_with (first | ((with_reducible refine at_load ?_); refine wl_ldc1 rfl rfl rfl ((HT.out.below hst.kp.below).cell (off := 3) rfl) (one_of (by decide +kernel)) ?_) | (first | ((with_reducible refine at_load ?_); first | refine X1 hst ?_ | refine XW hst ?_) | ((with_reducible refine at_store ?_); (first | refine Y1 hst ?_ | refine YW hst ?_); clear hst; intro w hst) | ((first | ((with_reducible refine at_alloc ?_); refine ZP hst ?_) | ((with_reducible refine at_box ?_); refine ZP hst ?_) | ((with_reducible refine at_bslice ?_); refine ZS hst ?_)); clear hst; (first | ((fail_if_success have := b0); intro b0 w hb0 hst) | ((fail_if_success have := b1); intro b1 w hb1 hst) | (intro b2 w hb2 hst)))))
      refine (inf_any (-1) _ (.inr rfl)).mono ?_
      rintro e w1 ⟨rfl, rfl⟩
      go_wp2_with ((first | ((with_reducible refine at_load ?_); first | refine X1 hst ?_ | refine XW hst ?_) | ((with_reducible refine at_store ?_); (first | refine Y1 hst ?_ | refine YW hst ?_); clear hst; intro w hst)))
      refine ret_tmp rfl rfl rfl ?_
      exact ⟨_, ⟨b1, b0, rfl, hb1, hb0, hst.blk (by (repeat' (first | exact List.Mem.head _ | apply List.Mem.tail)); done), hst.blk (by (repeat' (first | exact List.Mem.head _ | apply List.Mem.tail)); done), hst.kp.below⟩, .inr ⟨rfl, rfl⟩⟩
set_option maxRecDepth 100000 in
set_option maxHeartbeats 1000000 in
theorem parseBool_any (s value : ByteArray) (w : World) (hn : BoolN s value) : Calls Tryz.prog 101 #[.string s] w fun e w' => ∃ v : Bool, e = .returned (.tuple #[.bool v, .nilIface]) ∧ value = (if v then ⟨#[116, 114, 117, 101]⟩ else ⟨#[102, 97, 108, 115, 101]⟩) ∧ w = w' := by
  rcases hn with ⟨hm, rfl⟩ | ⟨hm, rfl⟩
  · simp only [truesL, List.mem_cons, List.not_mem_nil, or_false] at hm
    rcases hm with hm | hm | hm
    all_goals
      obtain rfl := of_list hm
      clear hm
      go_enter Tryz.func101, Tryz.ntmps101
      go_wp2
      exact ret_tmp2 rfl rfl rfl rfl ⟨true, rfl, rfl, rfl⟩
  · simp only [falsesL, List.mem_cons, List.not_mem_nil, or_false] at hm
    rcases hm with hm | hm | hm
    all_goals
      obtain rfl := of_list hm
      clear hm
      go_enter Tryz.func101, Tryz.ntmps101
      go_wp2
      exact ret_tmp2 rfl rfl rfl rfl ⟨false, rfl, rfl, rfl⟩
def BoolR (tk : Nat) (value : ByteArray) (w : World) (e : Ending) (w' : World) : Prop := ∃ v : Bool, NewB2 111 (fun ba => [ptr ba, ptr tk, .bool v]) w e w' ∧ value = (if v then ⟨#[116, 114, 117, 101]⟩ else ⟨#[102, 97, 108, 115, 101]⟩)
set_option maxRecDepth 100000 in
set_option maxHeartbeats 1000000 in
theorem bool_any (tk pb : Nat) (h : NH) (w0 : World) (hn : BoolN h.text h.value) (ht : Blk w0 tk 92 [.int .i64 h.typ, .int .i64 0, .int .i64 0, .string h.text, .string h.text, .string ByteArray.empty, ptr pb, .pointer none, .pointer none]) : Calls Tryz.prog 60 #[ptr tk] w0 (BoolR tk h.value w0) := by
  have hst := St.nil w0.heap.size ⟨[], []⟩ w0 (Nat.le_refl _)
  have HT := Lib.hid ht
  clear ht
  go_enter Tryz.func60, Tryz.ntmps60
  go_wp2_with (first | ((with_reducible refine at_load ?_); refine wl_ldc1 rfl rfl rfl ((HT.out.below hst.kp.below).cell (off := 3) rfl) (one_of (by decide +kernel)) ?_) | (first | ((with_reducible refine at_load ?_); first | refine X1 hst ?_ | refine XW hst ?_) | ((with_reducible refine at_store ?_); (first | refine Y1 hst ?_ | refine YW hst ?_); clear hst; intro w hst) | ((first | ((with_reducible refine at_alloc ?_); refine ZP hst ?_) | ((with_reducible refine at_box ?_); refine ZP hst ?_) | ((with_reducible refine at_bslice ?_); refine ZS hst ?_)); clear hst; (first | ((fail_if_success have := b0); intro b0 w hb0 hst) | ((fail_if_success have := b1); intro b1 w hb1 hst) | (intro b2 w hb2 hst)))))
  refine (parseBool_any h.text h.value _ hn).mono ?_
  rintro e w1 ⟨v, rfl, hv, rfl⟩
  go_wp2_with ((first | ((with_reducible refine at_load ?_); first | refine X1 hst ?_ | refine XW hst ?_) | ((with_reducible refine at_store ?_); (first | refine Y1 hst ?_ | refine YW hst ?_); clear hst; intro w hst) | ((first | ((with_reducible refine at_alloc ?_); refine ZP hst ?_) | ((with_reducible refine at_box ?_); refine ZP hst ?_) | ((with_reducible refine at_bslice ?_); refine ZS hst ?_)); clear hst; (first | ((fail_if_success have := b0); intro b0 w hb0 hst) | ((fail_if_success have := b1); intro b1 w hb1 hst) | (intro b2 w hb2 hst)))))
  refine ret_tmp rfl rfl rfl ?_
  exact ⟨v, ⟨b1, b0, rfl, hb1, hb0, hst.blk (by (repeat' (first | exact List.Mem.head _ | apply List.Mem.tail)); done), hst.blk (by (repeat' (first | exact List.Mem.head _ | apply List.Mem.tail)); done), hst.kp.below⟩, hv⟩
end Go.Proofs.YtpajcfkldnbpfaaGreatDoor
namespace Go.Proofs.YtpajcfkldnbpfaaGreatDoor
open Go.RowKit
def Agree (lo : Nat) (w w' : World) : Prop := ∀ (i : Nat) (cs : Array Value) (t : Nat) (fr : Nat × Nat), lo ≤ i → w.heap[i]? = some (.cells cs t fr) → w'.heap[i]? = some (.cells cs t fr)
theorem Blk.agree {lo : Nat} {w w' : World} {b t : Nat} {l : List Value} (h : Blk w b t l) (ha : Agree lo w w') (hb : lo ≤ b) : Blk w' b t l := ha b _ _ _ hb h
theorem Agree.of_below {lo : Nat} {w w' : World} (h : Below w.heap.size w w') : Agree lo w w' := fun i _ _ _ _ hi => (h.block i (lt_of_heap hi)).trans hi
theorem Agree.refl (lo : Nat) (w : World) : Agree lo w w := fun _ _ _ _ _ h => h
theorem Agree.trans {lo : Nat} {a b c : World} (h : Agree lo a b) (k : Agree lo b c) : Agree lo a c := fun i cs t fr hi hb => k i cs t fr hi (h i cs t fr hi hb)
theorem Agree.mono {lo lo' : Nat} {a b : World} (h : Agree lo a b) (hl : lo ≤ lo') : Agree lo' a b := fun i cs t fr hi hb => h i cs t fr (by omega) hb
def BareR (h : NH) (k : F NH) (tk pb : Nat) (w : World) (e : Ending) (w' : World) : Prop :=
  ∃ (b ba tk' pb' m1 : Nat) (kb : List Nat), e = .returned (nodeV h b) ∧ ((pb' = pb ∧ m1 = w.heap.size) ∨ (w.heap.size ≤ pb' ∧ pb' < m1)) ∧ m1 ≤ w'.heap.size ∧
    (∀ w'', Agree w.heap.size w' w'' → TokAt w'' 0 h tk pb → TokAt w'' 0 h tk' pb' ∧ Blk w'' ba 235 [.string ByteArray.empty, .pointer none, .int .i64 0] ∧ NodeAt w'' h k ba tk' b kb ∧ AstN w'' 0 m1 w'.heap.size k kb) ∧ Below w.heap.size w w'
set_option maxRecDepth 100000 in
set_option maxHeartbeats 1000000 in
theorem bare_null (h : NH) (p : Option Addr) (n c tk pb : Nat) (w0 : World) (ht : TokAt w0 0 h tk pb) (hk : h.kind = 2) : Calls Tryz.prog 32 #[nval h (.slice p n c), ptr tk] w0 (BareR h .nil tk pb w0) := by
  (have hst := St.nil w0.heap.size ⟨[], []⟩ w0 (Nat.le_refl _); obtain ⟨kd, ty, va, te, fl, co, of⟩ := h; simp only at hk; subst hk; have HT := Lib.hid ht; clear ht; unfold nval; go_enter Tryz.func32, Tryz.ntmps32; go_wp2_with ((first | ((with_reducible refine at_load ?_); first | refine X1 hst ?_ | refine XW hst ?_) | ((with_reducible refine at_store ?_); (first | refine Y1 hst ?_ | refine YW hst ?_); clear hst; intro w hst) | ((first | ((with_reducible refine at_alloc ?_); refine ZP hst ?_) | ((with_reducible refine at_box ?_); refine ZP hst ?_) | ((with_reducible refine at_bslice ?_); refine ZS hst ?_)); clear hst; (intro b0 w hb0 hst)))))
  refine (null_any tk _).mono ?_
  rintro e w1 ⟨b, ba, rfl, hlb, hlba, hbb, hba, hb⟩
  have hsz0 := hst.kp.size
  replace hst := hst.below hb
  go_wp2_with ((first | ((with_reducible refine at_load ?_); first | refine X1 hst ?_ | refine XW hst ?_) | ((with_reducible refine at_store ?_); (first | refine Y1 hst ?_ | refine YW hst ?_); clear hst; intro w hst)))
  refine ret_tmp rfl rfl rfl ?_
  exact ⟨b, ba, tk, pb, w0.heap.size, [], rfl, .inl ⟨rfl, rfl⟩, hst.kp.size, fun w2 ha ht => ⟨ht, hba.agree ha (by omega), .inl ⟨rfl, hbb.agree ha (by omega)⟩, ⟨rfl, hst.kp.size⟩⟩, hst.kp.below⟩
set_option maxRecDepth 100000 in
set_option maxHeartbeats 1000000 in
theorem bare_nan (h : NH) (p : Option Addr) (n c tk pb : Nat) (w0 : World) (ht : TokAt w0 0 h tk pb) (hk : h.kind = 7) (hv : h.value = ⟨#[78, 97, 78]⟩) : Calls Tryz.prog 32 #[nval h (.slice p n c), ptr tk] w0 (BareR h .nil tk pb w0) := by
  (have hst := St.nil w0.heap.size ⟨[], []⟩ w0 (Nat.le_refl _); obtain ⟨kd, ty, va, te, fl, co, of⟩ := h; simp only at hk; subst hk; have HT := Lib.hid ht; clear ht; unfold nval; go_enter Tryz.func32, Tryz.ntmps32; go_wp2_with ((first | ((with_reducible refine at_load ?_); first | refine X1 hst ?_ | refine XW hst ?_) | ((with_reducible refine at_store ?_); (first | refine Y1 hst ?_ | refine YW hst ?_); clear hst; intro w hst) | ((first | ((with_reducible refine at_alloc ?_); refine ZP hst ?_) | ((with_reducible refine at_box ?_); refine ZP hst ?_) | ((with_reducible refine at_bslice ?_); refine ZS hst ?_)); clear hst; (intro b0 w hb0 hst)))))
  refine (nan_any tk _).mono ?_
  rintro e w1 ⟨b, ba, rfl, hlb, hlba, hbb, hba, hb⟩
  have hsz0 := hst.kp.size
  replace hst := hst.below hb
  go_wp2_with ((first | ((with_reducible refine at_load ?_); first | refine X1 hst ?_ | refine XW hst ?_) | ((with_reducible refine at_store ?_); (first | refine Y1 hst ?_ | refine YW hst ?_); clear hst; intro w hst)))
  refine ret_tmp rfl rfl rfl ?_
  exact ⟨b, ba, tk, pb, w0.heap.size, [], rfl, .inl ⟨rfl, rfl⟩, hst.kp.size, fun w2 ha ht => ⟨ht, hba.agree ha (by omega), .inr (.inr (.inr (.inr (.inr (.inl ⟨rfl, hv, hbb.agree ha (by omega)⟩))))), ⟨rfl, hst.kp.size⟩⟩, hst.kp.below⟩
set_option maxRecDepth 100000 in
set_option maxHeartbeats 1000000 in
theorem bare_bool (h : NH) (p : Option Addr) (n c tk pb : Nat) (w0 : World) (ht : TokAt w0 0 h tk pb) (hk : h.kind = 3) (hv : BoolN h.text h.value) : Calls Tryz.prog 32 #[nval h (.slice p n c), ptr tk] w0 (BareR h .nil tk pb w0) := by
  (have hst := St.nil w0.heap.size ⟨[], []⟩ w0 (Nat.le_refl _); obtain ⟨kd, ty, va, te, fl, co, of⟩ := h; simp only at hk; subst hk; have HT := Lib.hid ht; clear ht; unfold nval; go_enter Tryz.func32, Tryz.ntmps32; go_wp2_with ((first | ((with_reducible refine at_load ?_); first | refine X1 hst ?_ | refine XW hst ?_) | ((with_reducible refine at_store ?_); (first | refine Y1 hst ?_ | refine YW hst ?_); clear hst; intro w hst) | ((first | ((with_reducible refine at_alloc ?_); refine ZP hst ?_) | ((with_reducible refine at_box ?_); refine ZP hst ?_) | ((with_reducible refine at_bslice ?_); refine ZS hst ?_)); clear hst; (intro b0 w hb0 hst)))))
  refine (bool_any tk pb ⟨3, ty, va, te, fl, co, of⟩ _ hv (HT.out.1.below hst.kp.below)).mono ?_
  rintro e w1 ⟨v, ⟨b, ba, rfl, hlb, hlba, hbb, hba, hb⟩, hv2⟩
  have hsz0 := hst.kp.size
  replace hst := hst.below hb
  have HV := Lib.hid hv2
  clear hv2
  go_wp2_with ((first | ((with_reducible refine at_load ?_); first | refine X1 hst ?_ | refine XW hst ?_) | ((with_reducible refine at_store ?_); (first | refine Y1 hst ?_ | refine YW hst ?_); clear hst; intro w hst)))
  refine ret_tmp rfl rfl rfl ?_
  exact ⟨b, ba, tk, pb, w0.heap.size, [], rfl, .inl ⟨rfl, rfl⟩, hst.kp.size, fun w2 ha ht => ⟨ht, hba.agree ha (by omega), .inr (.inl ⟨rfl, v, hbb.agree ha (by omega), HV.out⟩), ⟨rfl, hst.kp.size⟩⟩, hst.kp.below⟩
set_option maxRecDepth 100000 in
set_option maxHeartbeats 1000000 in
theorem bare_inf (h : NH) (p : Option Addr) (n c tk pb : Nat) (w0 : World) (ht : TokAt w0 0 h tk pb) (hk : h.kind = 6) (hv : InfN h.text h.value) : Calls Tryz.prog 32 #[nval h (.slice p n c), ptr tk] w0 (BareR h .nil tk pb w0) := by
  (have hst := St.nil w0.heap.size ⟨[], []⟩ w0 (Nat.le_refl _); obtain ⟨kd, ty, va, te, fl, co, of⟩ := h; simp only at hk; subst hk; have HT := Lib.hid ht; clear ht; unfold nval; go_enter Tryz.func32, Tryz.ntmps32; go_wp2_with ((first | ((with_reducible refine at_load ?_); first | refine X1 hst ?_ | refine XW hst ?_) | ((with_reducible refine at_store ?_); (first | refine Y1 hst ?_ | refine YW hst ?_); clear hst; intro w hst) | ((first | ((with_reducible refine at_alloc ?_); refine ZP hst ?_) | ((with_reducible refine at_box ?_); refine ZP hst ?_) | ((with_reducible refine at_bslice ?_); refine ZS hst ?_)); clear hst; (intro b0 w hb0 hst)))))
  refine (infinity_any tk pb ⟨6, ty, va, te, fl, co, of⟩ _ hv (HT.out.1.below hst.kp.below)).mono ?_
  rintro e w1 ⟨v, ⟨b, ba, rfl, hlb, hlba, hbb, hba, hb⟩, hv2⟩
  have hsz0 := hst.kp.size
  replace hst := hst.below hb
  have HV := Lib.hid hv2
  clear hv2
  go_wp2_with ((first | ((with_reducible refine at_load ?_); first | refine X1 hst ?_ | refine XW hst ?_) | ((with_reducible refine at_store ?_); (first | refine Y1 hst ?_ | refine YW hst ?_); clear hst; intro w hst)))
  refine ret_tmp rfl rfl rfl ?_
  exact ⟨b, ba, tk, pb, w0.heap.size, [], rfl, .inl ⟨rfl, rfl⟩, hst.kp.size, fun w2 ha ht => ⟨ht, hba.agree ha (by omega), .inr (.inr (.inr (.inr (.inl ⟨rfl, v, hbb.agree ha (by omega), HV.out⟩)))), ⟨rfl, hst.kp.size⟩⟩, hst.kp.below⟩
set_option maxRecDepth 100000 in
set_option maxHeartbeats 1000000 in
theorem bare_string (h : NH) (p : Option Addr) (n c tk pb : Nat) (w0 : World) (ht : TokAt w0 0 h tk pb) (hk : h.kind = 8) (h1 : 1 ≤ h.col) (h2 : h.col ≤ 200) : Calls Tryz.prog 32 #[nval h (.slice p n c), ptr tk] w0 (BareR h .nil tk pb w0) := by
  (have hst := St.nil w0.heap.size ⟨[], []⟩ w0 (Nat.le_refl _); obtain ⟨kd, ty, va, te, fl, co, of⟩ := h; simp only at hk; subst hk; have HT := Lib.hid ht; clear ht; unfold nval; go_enter Tryz.func32, Tryz.ntmps32; go_wp2_with ((first | ((with_reducible refine at_load ?_); first | refine X1 hst ?_ | refine XW hst ?_) | ((with_reducible refine at_store ?_); (first | refine Y1 hst ?_ | refine YW hst ?_); clear hst; intro w hst) | ((first | ((with_reducible refine at_alloc ?_); refine ZP hst ?_) | ((with_reducible refine at_box ?_); refine ZP hst ?_) | ((with_reducible refine at_bslice ?_); refine ZS hst ?_)); clear hst; (intro b0 w hb0 hst)))))
  refine (text_any ⟨8, ty, va, te, fl, co, of⟩ p n c _ h1 h2).mono ?_
  rintro e w1 ⟨b, ba, tk', pb', rfl, hlp, hlt, hlb, hlba, hltk, htk, hba, hbb, hb⟩
  have hsz := hst.kp.size
  have hsz0 := hst.kp.size
  replace hst := hst.below hb
  go_wp2_with ((first | ((with_reducible refine at_load ?_); first | refine X1 hst ?_ | refine XW hst ?_) | ((with_reducible refine at_store ?_); (first | refine Y1 hst ?_ | refine YW hst ?_); clear hst; intro w hst)))
  refine ret_tmp rfl rfl rfl ?_
  exact ⟨b, ba, tk', pb', w1.heap.size, [], rfl, .inr ⟨by omega, hlt⟩, Nat.le_refl _, fun w2 ha ht => ⟨⟨htk.1.agree ha (by omega), htk.2.agree ha (by omega)⟩, hba.agree ha (by omega), .inr (.inr (.inr (.inr (.inr (.inr (.inl ⟨rfl, hbb.agree ha (by omega)⟩)))))), ⟨rfl, Nat.le_refl _⟩⟩, hst.kp.below⟩
end Go.Proofs.YtpajcfkldnbpfaaGreatDoor
namespace Go.Proofs.YtpajcfkldnbpfaaGreatDoor
open Go.RowKit
def BuildR (h : NH) (k : F NH) (w : World) (e : Ending) (w' : World) : Prop := ∃ b, e = .returned (nodeV h b) ∧ (∀ w'', Agree w.heap.size w' w'' → AstN w'' 0 w.heap.size w'.heap.size (.cons h k .nil) [b]) ∧ Below w.heap.size w w'
def BuildC (h : NH) (k : F NH) : Prop := ∀ (A : Nat → Nat → Prop) (p : Option Addr) (c : Nat) (w : World), SlT A w p k → k.len ≤ c → NOK h k → k.all NOK → Calls Tryz.prog 18 #[nval h (.slice p k.len c)] w (BuildR h k w)
theorem St.agree {B B' : Nat} {w0 w2 w3 w : World} {L2 Lw : Rws} {bs : List Nat} (h2 : St B ⟨[], []⟩ w0 w2 L2) (hb : ∃ r, L2.map (·.1) = bs.map some ++ r) (h : St B' ⟨[], bs⟩ w3 w Lw) : Agree w2.heap.size w3 w := by
  intro i cs t fr hi hb'
  obtain ⟨r, hr⟩ := hb
  refine h.kp.typ i cs t fr hb' List.not_mem_nil (fun hm => ?_)
  have h3 : some i ∈ L2.map (·.1) := by rw [hr]; exact List.mem_append_left _ (List.mem_map.2 ⟨i, hm, rfl⟩)
  obtain ⟨⟨x, l, t'⟩, hm2, he⟩ := List.mem_map.1 h3
  simp only at he
  subst he
  have := lt_of_heap (h2.heap hm2)
  omega
theorem AstN.widen {w : World} {c : Int} : ∀ {f : F NH} {lo hi lo' hi' : Nat} {bs : List Nat}, lo' ≤ lo → hi ≤ hi' → AstN w c lo hi f bs → AstN w c lo' hi' f bs := by
  intro f
  induction f with
  | nil => rintro lo hi lo' hi' bs h1 h2 ⟨h, h3⟩; exact ⟨h, by omega⟩
  | cons h k r ihk ihr =>
    rintro lo hi lo' hi' bs h1 h2 ⟨b, bs', ba, tk, pb, m1, mid, kb, e, h3, h4, h5, h6, h7, h8, h9⟩
    exact ⟨b, bs', ba, tk, pb, m1, mid, kb, e, by omega, h4, h5, h6, h7, h8, ihr (Nat.le_refl _) h2 h9⟩
set_option maxRecDepth 100000 in
set_option maxHeartbeats 1000000 in
theorem bare_alias (A : Nat → Nat → Prop) (h : NH) (k : F NH) (p : Option Addr) (c tk pb : Nat) (w0 : World) (ht : TokAt w0 0 h tk pb) (hs : SlT A w0 p k) (hkc : k.len ≤ c) (hk : h.kind = 17) (a : NH) (ka : F NH) (hka : k = .cons a ka .nil) (hB : BuildC a ka) (hok : NOK a ka) (hal : ka.all NOK) : Calls Tryz.prog 32 #[nval h (.slice p k.len c), ptr tk] w0 (BareR h k tk pb w0) := by
  subst hka
  have HS := Lib.hid (And.intro hs (And.intro hkc (And.intro hB (And.intro hok hal))))
  clear hs hkc hB hok hal
  simp only [F.len]
  (have hst := St.nil w0.heap.size ⟨[], []⟩ w0 (Nat.le_refl _); obtain ⟨kd, ty, va, te, fl, co, of⟩ := h; simp only at hk; subst hk; have HT := Lib.hid ht; clear ht; unfold nval; go_enter Tryz.func32, Tryz.ntmps32; go_wp2_with ((first | ((with_reducible refine at_load ?_); first | refine X1 hst ?_ | refine XW hst ?_) | ((with_reducible refine at_store ?_); (first | refine Y1 hst ?_ | refine YW hst ?_); clear hst; intro w hst) | ((first | ((with_reducible refine at_alloc ?_); refine ZP hst ?_) | ((with_reducible refine at_box ?_); refine ZP hst ?_) | ((with_reducible refine at_bslice ?_); refine ZS hst ?_)); clear hst; (first | ((fail_if_success have := b0); intro b0 w hb0 hst) | ((fail_if_success have := b1); intro b1 w hb1 hst) | ((fail_if_success have := b2); intro b2 w hb2 hst) | (intro b3 w hb3 hst))))))
  refine (alias_any tk _).mono ?_
  rintro e w1 ⟨b, ba, rfl, hlb, hlba, hbb, hba, hb⟩
  have hsz0 := hst.kp.size
  replace hst := hst.addNew2 hb hlb hlba hbb hba (by decide)
  clear hbb hba hb
  go_wp2_with ((first | ((with_reducible refine at_load ?_); first | refine X1 hst ?_ | refine XW hst ?_) | ((with_reducible refine at_store ?_); (first | refine Y1 hst ?_ | refine YW hst ?_); clear hst; intro w hst)))
  refine (kid_any A ⟨17, ty, va, te, fl, co, of⟩ (.cons a ka .nil) p c 0 a ka _ (by decide) (HS.out.1.lt hst.kp.below) rfl (by simp [F.len])).mono ?_
  rintro e w2 ⟨q, cq, rfl, hcq, hsq, hb⟩
  replace hst := hst.below hb
  have hsq2 := hsq.lt hb
  unfold nval
  go_wp2_with ((first | ((with_reducible refine at_load ?_); first | refine X1 hst ?_ | refine XW hst ?_) | ((with_reducible refine at_store ?_); (first | refine Y1 hst ?_ | refine YW hst ?_); clear hst; intro w hst)))
  refine (HS.out.2.2.1 A q cq _ hsq2 hcq HS.out.2.2.2.1 HS.out.2.2.2.2).mono ?_
  rintro e w3 ⟨kb, rfl, hast, hb2⟩
  have hsz := hst.kp.size
  have hsz2 := hb2.size
  have hst2 := hst
  have hst3 := hst.below hb2
  have HA := Lib.hid (And.intro hast (And.intro hst2 hst3))
  replace hst := St.watchP (L1 := [_, _, _]) (L2 := []) hst3 (bs := [b, ba, b0]) rfl rfl
  simp only [List.cons_append, List.nil_append] at hst
  clear hast hsq hsq2 hb hb2 hst2 hst3
  unfold nodeV
  go_wp2_with ((first | ((with_reducible refine at_load ?_); first | refine X1 hst ?_ | refine XW hst ?_) | ((with_reducible refine at_store ?_); (first | refine Y1 hst ?_ | refine YW hst ?_); clear hst; intro w hst)))
  refine ret_tmp rfl rfl rfl ?_
  obtain ⟨hast, hst2, hst3⟩ := HA.out
  have hun := hst3.unwatch (Ts := ⟨[], []⟩) hst (by simp; omega)
  have h9 := hst.kp.size
  refine ⟨b, ba, tk, pb, w0.heap.size, [kb], rfl, .inl ⟨rfl, rfl⟩, hun.kp.size, fun w'' ha ht => ⟨ht, (hun.blk (b := ba) (by (repeat' (first | exact List.Mem.head _ | apply List.Mem.tail)); done)).agree ha (by omega), ?_, (hast w'' (((hst2.agree ⟨_, rfl⟩ hst)).trans (ha.mono hsz))).widen hsz h9⟩, hun.kp.below⟩
  exact .inr (.inr (.inr (.inr (.inr (.inr (.inr (.inr (.inr (.inr (.inr (.inr (.inl ⟨rfl, _, rfl, (hun.blk (b := b) (by (repeat' (first | exact List.Mem.head _ | apply List.Mem.tail)); done)).agree ha (by omega)⟩))))))))))))
end Go.Proofs.YtpajcfkldnbpfaaGreatDoor
namespace Go.Proofs.YtpajcfkldnbpfaaGreatDoor
open Go.RowKit
set_option maxRecDepth 100000 in
set_option maxHeartbeats 1000000 in
theorem bare_tag (A : Nat → Nat → Prop) (h : NH) (k : F NH) (p : Option Addr) (c tk pb : Nat) (w0 : World) (ht : TokAt w0 0 h tk pb) (hs : SlT A w0 p k) (hkc : k.len ≤ c) (hk : h.kind = 19) (a : NH) (ka : F NH) (hka : k = .cons a ka .nil) (hB : BuildC a ka) (hok : NOK a ka) (hal : ka.all NOK) : Calls Tryz.prog 32 #[nval h (.slice p k.len c), ptr tk] w0 (BareR h k tk pb w0) := by
  subst hka
  have HS := Lib.hid (And.intro hs (And.intro hkc (And.intro hB (And.intro hok hal))))
  clear hs hkc hB hok hal
  simp only [F.len]
  (have hst := St.nil w0.heap.size ⟨[], []⟩ w0 (Nat.le_refl _); obtain ⟨kd, ty, va, te, fl, co, of⟩ := h; simp only at hk; subst hk; have HT := Lib.hid ht; clear ht; unfold nval; go_enter Tryz.func32, Tryz.ntmps32; go_wp2_with ((first | ((with_reducible refine at_load ?_); first | refine X1 hst ?_ | refine XW hst ?_) | ((with_reducible refine at_store ?_); (first | refine Y1 hst ?_ | refine YW hst ?_); clear hst; intro w hst) | ((first | ((with_reducible refine at_alloc ?_); refine ZP hst ?_) | ((with_reducible refine at_box ?_); refine ZP hst ?_) | ((with_reducible refine at_bslice ?_); refine ZS hst ?_)); clear hst; (first | ((fail_if_success have := b0); intro b0 w hb0 hst) | ((fail_if_success have := b1); intro b1 w hb1 hst) | ((fail_if_success have := b2); intro b2 w hb2 hst) | (intro b3 w hb3 hst))))))
  refine (tagN_any tk _).mono ?_
  rintro e w1 ⟨b, ba, rfl, hlb, hlba, hbb, hba, hb⟩
  have hsz0 := hst.kp.size
  replace hst := hst.addNew2 hb hlb hlba hbb hba (by decide)
  clear hbb hba hb
  go_wp2_with ((first | ((with_reducible refine at_load ?_); first | refine X1 hst ?_ | refine XW hst ?_) | ((with_reducible refine at_store ?_); (first | refine Y1 hst ?_ | refine YW hst ?_); clear hst; intro w hst)))
  refine (kid_any A ⟨19, ty, va, te, fl, co, of⟩ (.cons a ka .nil) p c 0 a ka _ (by decide) (HS.out.1.lt hst.kp.below) rfl (by simp [F.len])).mono ?_
  rintro e w2 ⟨q, cq, rfl, hcq, hsq, hb⟩
  replace hst := hst.below hb
  have hsq2 := hsq.lt hb
  unfold nval
  go_wp2_with ((first | ((with_reducible refine at_load ?_); first | refine X1 hst ?_ | refine XW hst ?_) | ((with_reducible refine at_store ?_); (first | refine Y1 hst ?_ | refine YW hst ?_); clear hst; intro w hst)))
  refine (HS.out.2.2.1 A q cq _ hsq2 hcq HS.out.2.2.2.1 HS.out.2.2.2.2).mono ?_
  rintro e w3 ⟨kb, rfl, hast, hb2⟩
  have hsz := hst.kp.size
  have hsz2 := hb2.size
  have hst2 := hst
  have hst3 := hst.below hb2
  have HA := Lib.hid (And.intro hast (And.intro hst2 hst3))
  replace hst := St.watchP (L1 := [_, _, _]) (L2 := []) hst3 (bs := [b, ba, b0]) rfl rfl
  simp only [List.cons_append, List.nil_append] at hst
  clear hast hsq hsq2 hb hb2 hst2 hst3
  unfold nodeV
  go_wp2_with ((first | ((with_reducible refine at_load ?_); first | refine X1 hst ?_ | refine XW hst ?_) | ((with_reducible refine at_store ?_); (first | refine Y1 hst ?_ | refine YW hst ?_); clear hst; intro w hst)))
  refine ret_tmp rfl rfl rfl ?_
  obtain ⟨hast, hst2, hst3⟩ := HA.out
  have hun := hst3.unwatch (Ts := ⟨[], []⟩) hst (by simp; omega)
  have h9 := hst.kp.size
  refine ⟨b, ba, tk, pb, w0.heap.size, [kb], rfl, .inl ⟨rfl, rfl⟩, hun.kp.size, fun w'' ha ht => ⟨ht, (hun.blk (b := ba) (by (repeat' (first | exact List.Mem.head _ | apply List.Mem.tail)); done)).agree ha (by omega), ?_, (hast w'' (((hst2.agree ⟨_, rfl⟩ hst)).trans (ha.mono hsz))).widen hsz h9⟩, hun.kp.below⟩
  exact .inr (.inr (.inr (.inr (.inr (.inr (.inr (.inr (.inr (.inr (.inr (.inr (.inr ⟨rfl, _, rfl, (hun.blk (b := b) (by (repeat' (first | exact List.Mem.head _ | apply List.Mem.tail)); done)).agree ha (by omega)⟩))))))))))))
set_option maxRecDepth 100000 in
set_option maxHeartbeats 1000000 in
theorem TextR.ast {a : NH} {w w' : World} {e : Ending} (h : TextR a w e w') (h8 : a.kind = 8) : ∃ kb, e = .returned (ptr kb) ∧ (∀ w'', Agree w.heap.size w' w'' → AstN w'' 0 w.heap.size w'.heap.size (.cons a .nil .nil) [kb]) ∧ Below w.heap.size w w' := by
  obtain ⟨b, ba, tk, pb, rfl, h1, h2, h3, h4, h5, ht, hba, hb, hbe⟩ := h
  exact ⟨b, rfl, fun w'' ha => ⟨b, [], ba, tk, pb, w'.heap.size, w'.heap.size, [], rfl, h1, h2, ⟨ht.1.agree ha h5, ht.2.agree ha h1⟩, hba.agree ha h4, .inr (.inr (.inr (.inr (.inr (.inr (.inl ⟨h8, hb.agree ha h3⟩)))))), ⟨rfl, Nat.le_refl _⟩, rfl, Nat.le_refl _⟩, hbe⟩
set_option maxRecDepth 100000 in
set_option maxHeartbeats 1000000 in
theorem bare_literal (A : Nat → Nat → Prop) (h : NH) (k : F NH) (p : Option Addr) (c tk pb : Nat) (w0 : World) (ht : TokAt w0 0 h tk pb) (hs : SlT A w0 p k) (hkc : k.len ≤ c) (hk : h.kind = 10) (a : NH) (hka : k = .cons a .nil .nil) (h8 : a.kind = 8) (hok : NOK a .nil) : Calls Tryz.prog 32 #[nval h (.slice p k.len c), ptr tk] w0 (BareR h k tk pb w0) := by
  subst hka
  have HS := Lib.hid (And.intro hs (And.intro hkc (And.intro h8 hok)))
  clear hs hkc h8 hok
  simp only [F.len]
  (have hst := St.nil w0.heap.size ⟨[], []⟩ w0 (Nat.le_refl _); obtain ⟨kd, ty, va, te, fl, co, of⟩ := h; simp only at hk; subst hk; have HT := Lib.hid ht; clear ht; unfold nval; go_enter Tryz.func32, Tryz.ntmps32; go_wp2_with ((first | ((with_reducible refine at_load ?_); first | refine X1 hst ?_ | refine XW hst ?_) | ((with_reducible refine at_store ?_); (first | refine Y1 hst ?_ | refine YW hst ?_); clear hst; intro w hst) | ((first | ((with_reducible refine at_alloc ?_); refine ZP hst ?_) | ((with_reducible refine at_box ?_); refine ZP hst ?_) | ((with_reducible refine at_bslice ?_); refine ZS hst ?_)); clear hst; (first | ((fail_if_success have := b0); intro b0 w hb0 hst) | ((fail_if_success have := b1); intro b1 w hb1 hst) | ((fail_if_success have := b2); intro b2 w hb2 hst) | (intro b3 w hb3 hst))))))
  refine (literal_any tk _).mono ?_
  rintro e w1 ⟨b, ba, rfl, hlb, hlba, hbb, hba, hb⟩
  have hsz0 := hst.kp.size
  replace hst := hst.addNew2 hb hlb hlba hbb hba (by decide)
  clear hbb hba hb
  go_wp2_with ((first | ((with_reducible refine at_load ?_); first | refine X1 hst ?_ | refine XW hst ?_) | ((with_reducible refine at_store ?_); (first | refine Y1 hst ?_ | refine YW hst ?_); clear hst; intro w hst)))
  refine (kid_any A ⟨10, ty, va, te, fl, co, of⟩ (.cons a .nil .nil) p c 0 a .nil _ (by decide) (HS.out.1.lt hst.kp.below) rfl (by simp [F.len])).mono ?_
  rintro e w2 ⟨q, cq, rfl, hcq, hsq, hb⟩
  replace hst := hst.below hb
  have hsq2 := hsq.lt hb
  unfold nval
  go_wp2_with ((first | ((with_reducible refine at_load ?_); first | refine X1 hst ?_ | refine XW hst ?_) | ((with_reducible refine at_store ?_); (first | refine Y1 hst ?_ | refine YW hst ?_); clear hst; intro w hst)))
  simp only [F.len]
  refine (text_any a q 0 cq _ HS.out.2.2.2.1 HS.out.2.2.2.2.1).mono ?_
  intro e w3 he
  obtain ⟨kb, rfl, hast, hb2⟩ := he.ast HS.out.2.2.1
  have hsz := hst.kp.size
  have hsz2 := hb2.size
  have hst2 := hst
  have hst3 := hst.below hb2
  have HA := Lib.hid (And.intro hast (And.intro hst2 hst3))
  replace hst := St.watchP (L1 := [_, _, _]) (L2 := []) hst3 (bs := [b, ba, b0]) rfl rfl
  simp only [List.cons_append, List.nil_append] at hst
  clear hast hsq hsq2 hb hb2 hst2 hst3
  go_wp2_with ((first | ((with_reducible refine at_load ?_); first | refine X1 hst ?_ | refine XW hst ?_) | ((with_reducible refine at_store ?_); (first | refine Y1 hst ?_ | refine YW hst ?_); clear hst; intro w hst)))
  refine ret_tmp rfl rfl rfl ?_
  obtain ⟨hast, hst2, hst3⟩ := HA.out
  have hun := hst3.unwatch (Ts := ⟨[], []⟩) hst (by simp; omega)
  have h9 := hst.kp.size
  refine ⟨b, ba, tk, pb, w0.heap.size, [kb], rfl, .inl ⟨rfl, rfl⟩, hun.kp.size, fun w'' ha ht => ⟨ht, (hun.blk (b := ba) (by (repeat' (first | exact List.Mem.head _ | apply List.Mem.tail)); done)).agree ha (by omega), ?_, (hast w'' (((hst2.agree ⟨_, rfl⟩ hst)).trans (ha.mono hsz))).widen hsz h9⟩, hun.kp.below⟩
  exact .inr (.inr (.inr (.inr (.inr (.inr (.inr (.inl ⟨rfl, kb, rfl, (hun.blk (b := b) (by (repeat' (first | exact List.Mem.head _ | apply List.Mem.tail)); done)).agree ha (by omega)⟩)))))))
end Go.Proofs.YtpajcfkldnbpfaaGreatDoor
namespace Go.Proofs.YtpajcfkldnbpfaaGreatDoor
open Go.RowKit
theorem AstN.two {w : World} {c : Int} {a a2 : NH} {ka ka2 : F NH} {b b2 l0 l1 l2 l3 lo hi : Nat} (h1 : AstN w c l0 l1 (.cons a ka .nil) [b]) (h2 : AstN w c l2 l3 (.cons a2 ka2 .nil) [b2]) (hl : lo ≤ l0) (hm : l1 ≤ l2) (hh : l3 ≤ hi) : AstN w c lo hi (.cons a ka (.cons a2 ka2 .nil)) [b, b2] := by
  obtain ⟨x, xs, ba, tk, pb, m1, mid, kb, e, h3, h4, h5, h6, h7, h8, h9, h10⟩ := h1
  cases e
  exact ⟨b, [b2], ba, tk, pb, m1, mid, kb, rfl, by omega, h4, h5, h6, h7, h8, h2.widen (by omega) hh⟩
set_option maxRecDepth 100000 in
set_option maxHeartbeats 1000000 in
theorem bare_anchor (A : Nat → Nat → Prop) (h : NH) (k : F NH) (p : Option Addr) (c tk pb : Nat) (w0 : World) (ht : TokAt w0 0 h tk pb) (hs : SlT A w0 p k) (hkc : k.len ≤ c) (hk : h.kind = 16) (a a2 : NH) (ka ka2 : F NH) (hka : k = .cons a ka (.cons a2 ka2 .nil)) (hB : BuildC a ka) (hB2 : BuildC a2 ka2) (hok : NOK a ka ∧ ka.all NOK ∧ NOK a2 ka2 ∧ ka2.all NOK) : Calls Tryz.prog 32 #[nval h (.slice p k.len c), ptr tk] w0 (BareR h k tk pb w0) := by
  subst hka
  have HS := Lib.hid (And.intro hs (And.intro hkc (And.intro hB (And.intro hB2 hok))))
  clear hs hkc hB hB2 hok
  simp only [F.len]
  (have hst := St.nil w0.heap.size ⟨[], []⟩ w0 (Nat.le_refl _); obtain ⟨kd, ty, va, te, fl, co, of⟩ := h; simp only at hk; subst hk; have HT := Lib.hid ht; clear ht; unfold nval; go_enter Tryz.func32, Tryz.ntmps32; go_wp2_with ((first | ((with_reducible refine at_load ?_); first | refine X1 hst ?_ | refine XW hst ?_) | ((with_reducible refine at_store ?_); (first | refine Y1 hst ?_ | refine YW hst ?_); clear hst; intro w hst) | ((first | ((with_reducible refine at_alloc ?_); refine ZP hst ?_) | ((with_reducible refine at_box ?_); refine ZP hst ?_) | ((with_reducible refine at_bslice ?_); refine ZS hst ?_)); clear hst; (first | ((fail_if_success have := b0); intro b0 w hb0 hst) | ((fail_if_success have := b1); intro b1 w hb1 hst) | ((fail_if_success have := b2); intro b2 w hb2 hst) | ((fail_if_success have := b3); intro b3 w hb3 hst) | ((fail_if_success have := b4); intro b4 w hb4 hst) | (intro b5 w hb5 hst))))))
  refine (anchor_any tk _).mono ?_
  rintro e w1 ⟨b, ba, rfl, hlb, hlba, hbb, hba, hb⟩
  have hsz0 := hst.kp.size
  replace hst := hst.addNew2 hb hlb hlba hbb hba (by decide)
  clear hbb hba hb
  go_upto_region 36 with ((first | ((with_reducible refine at_load ?_); first | refine X1 hst ?_ | refine XW hst ?_) | ((with_reducible refine at_store ?_); (first | refine Y1 hst ?_ | refine YW hst ?_); clear hst; intro w hst)))
  refine wp_plan (fun w => St w0.heap.size ⟨[], []⟩ w0 w [(some b0, [.int .i64 16, .int .i64 ty, .string va, .string te, .string te, .string ByteArray.empty, .bool fl, .bool false, .bool false, .int .i64 1, .int .i64 co, .int .i64 of, .int .i64 0, .int .i64 0, .slice none 0 0, .slice none 0 0, .slice none 0 0, .slice none 0 0, .slice p 2 c], 31)]) [0, 1, 2, 5, 8, 9, 11, 12] (.q 0 (.q 1 (.q 2 (.q 5 (.e 3 true (.e 4 true (.e 6 true (.e 7 true (.q 8 (.q 9 (.e 10 true (.q 11 (.q 12 (.e 13 true (.fin))))))))))))))) mixed (by kernel_rfl) (by kernel_rfl) (by kernel_rfl) (fun d v c a w h => by cases d <;> exact h) (hst.drew.sub (.cons _ (.cons _ (List.Sublist.refl _)))) ?_
  replace hst := hst.drew
  repeat ((refine AQ ?_); first | (refine Q1 ?_; go_frame) | (refine QW ?_; go_frame) | (refine QV ?_; go_frame))
  refine at_e (by simp only [List.getElem?_toArray, List.getElem?_cons_succ, List.getElem?_cons_zero]; rfl) rfl ?_
  refine e_call (by go_simp <;> first | rfl | exact ⟨rfl, rfl⟩) (kid_any A ⟨16, ty, va, te, fl, co, of⟩ (.cons a ka (.cons a2 ka2 .nil)) p c 0 a ka _ (by decide) (HS.out.1.lt hst.kp.below) rfl (by simp [F.len])) ?_
  rintro e w2 ⟨q, cq, rfl, hcq, hsq, hb⟩
  replace hst := hst.below hb
  have hsq2 := hsq.lt hb
  refine ⟨_, rfl, fun _ => hst.sub (.cons _ (.cons _ (List.Sublist.refl _))), ?_⟩
  unfold nval
  go_frame
  refine at_e (by simp only [List.getElem?_toArray, List.getElem?_cons_succ, List.getElem?_cons_zero]; rfl) rfl ?_
  refine e_call (by go_simp <;> first | rfl | exact ⟨rfl, rfl⟩) (HS.out.2.2.1 A q cq _ hsq2 hcq HS.out.2.2.2.2.1 HS.out.2.2.2.2.2.1) ?_
  rintro e w3 ⟨kb, rfl, hast, hb2⟩
  have hsz := hst.kp.size
  have hsz2 := hb2.size
  have hst2 := hst
  replace hst := hst.below hb2
  refine ⟨_, rfl, fun _ => hst.sub (.cons _ (.cons _ (List.Sublist.refl _))), ?_⟩
  unfold nodeV
  go_frame
  refine at_e (by simp only [List.getElem?_toArray, List.getElem?_cons_succ, List.getElem?_cons_zero]; rfl) rfl ?_
  refine e_call (by go_simp <;> first | rfl | exact ⟨rfl, rfl⟩) (kid_any A ⟨16, ty, va, te, fl, co, of⟩ (.cons a ka (.cons a2 ka2 .nil)) p c 1 a2 ka2 _ (by decide) (HS.out.1.lt hst.kp.below) rfl (by simp [F.len])) ?_
  rintro e w4 ⟨q2, cq2, rfl, hcq2, hsq3, hb3⟩
  have hst3 := hst
  replace hst := hst.below hb3
  have hsq4 := hsq3.lt hb3
  refine ⟨_, rfl, fun _ => hst.sub (.cons _ (.cons _ (List.Sublist.refl _))), ?_⟩
  unfold nval
  go_frame
  refine at_e (by simp only [List.getElem?_toArray, List.getElem?_cons_succ, List.getElem?_cons_zero]; rfl) rfl ?_
  refine e_call (by go_simp <;> first | rfl | exact ⟨rfl, rfl⟩) (HS.out.2.2.2.1 A q2 cq2 _ hsq4 hcq2 HS.out.2.2.2.2.2.2.1 HS.out.2.2.2.2.2.2.2) ?_
  rintro e w5 ⟨kb2, rfl, hast2, hb4⟩
  have hsz4 := hst.kp.size
  have hsz5 := hb4.size
  have hsz6 := hb3.size
  have hst4 := hst
  have hst5 := hst.below hb4
  have HA := Lib.hid (And.intro hast (And.intro hst2 (And.intro hast2 (And.intro hst4 (And.intro hst5 (And.intro hb3 hb4))))))
  replace hst := St.watchP (L1 := [_, _, _]) (L2 := []) hst5 (bs := [b, ba, b0]) rfl rfl
  simp only [List.cons_append, List.nil_append] at hst
  clear hast hsq hsq2 hb hb2 hst2 hst3 hsq3 hsq4 hast2 hst4 hst5 hb3 hb4
  refine ⟨_, rfl, fun _ => (HA.out.2.2.2.2.1).sub (.cons _ (.cons _ (List.Sublist.refl _))), ?_⟩
  unfold nodeV
  go_frame
  repeat ((refine AQ ?_); first | (refine Q1 ?_; go_frame) | (refine QW ?_; go_frame) | (refine QV ?_; go_frame))
  refine at_e (by simp only [List.getElem?_toArray, List.getElem?_cons_succ, List.getElem?_cons_zero]; rfl) rfl ?_
  (refine E1 hst ?_; clear hst; intro w hst; refine ⟨?_, ?_⟩; rotate_left; go_frame)
  · repeat ((refine AQ ?_); first | (refine Q1 ?_; go_frame) | (refine QW ?_; go_frame) | (refine QV ?_; go_frame))
    refine at_e (by simp only [List.getElem?_toArray, List.getElem?_cons_succ, List.getElem?_cons_zero]; rfl) rfl ?_
    (refine E1 hst ?_; clear hst; intro w hst; refine ⟨?_, ?_⟩; rotate_left; go_frame)
    · unfold wpP
      go_wp2_with ((first | ((with_reducible refine at_load ?_); first | refine X1 hst ?_ | refine XW hst ?_) | ((with_reducible refine at_store ?_); (first | refine Y1 hst ?_ | refine YW hst ?_); clear hst; intro w hst)))
      refine ret_tmp rfl rfl rfl ?_
      obtain ⟨hast, hst2, hast2, hst4, hst5, hb3, hb4⟩ := HA.out
      have hun := hst5.unwatch (Ts := ⟨[], []⟩) hst (by simp; omega)
      have h9 := hst.kp.size
      have hag := hst4.agree ⟨_, rfl⟩ hst
      have hag2 : Agree w2.heap.size w3 w := ((Agree.of_below hb3).trans (Agree.of_below hb4)).trans (hst2.agree ⟨_, rfl⟩ hst)
      refine ⟨b, ba, tk, pb, w0.heap.size, [kb, kb2], rfl, .inl ⟨rfl, rfl⟩, hun.kp.size, fun w'' ha ht => ⟨ht, (hun.blk (b := ba) (by (repeat' (first | exact List.Mem.head _ | apply List.Mem.tail)); done)).agree ha (by omega), ?_, ?_⟩, hun.kp.below⟩
      · exact .inr (.inr (.inr (.inr (.inr (.inr (.inr (.inr (.inr (.inr (.inr (.inl ⟨rfl, _, _, rfl, (hun.blk (b := b) (by (repeat' (first | exact List.Mem.head _ | apply List.Mem.tail)); done)).agree ha (by omega)⟩)))))))))))
      · exact AstN.two (hast w'' (hag2.trans (ha.mono hsz))) (hast2 w'' (hag.trans (ha.mono (by omega)))) hsz hsz6 h9
    · exact fun _ => ((HA.out.2.2.2.2.1).unwatch (Ts := ⟨[], []⟩) hst (by simp; omega)).sub (.cons _ (.cons _ (List.Sublist.refl _)))
  · exact fun _ => ((HA.out.2.2.2.2.1).unwatch (Ts := ⟨[], []⟩) hst (by simp; omega)).sub (.cons _ (.cons _ (List.Sublist.refl _)))
end Go.Proofs.YtpajcfkldnbpfaaGreatDoor
