/- The nodes of all trees; NodeOf. trNode: a tree that is in order, and its node. The small makers of the package's trees. The package's trees in memory: what they are. The package's makers of nodes. text and kid. A kid of a node; the kept forests. -/
import Derived.Test.YtpajcfkldnbpfaaGreatDoorV12
import Derived.Lib.ItoaNum
import Derived.Test.YtpajcfkldnbpfaaGreatDoorRows
set_option linter.unusedSimpArgs false
set_option linter.unusedVariables false
namespace Go.Proofs.YtpajcfkldnbpfaaGreatDoor
open Go.RowKit
theorem NodeC.mono {x : Int} {h : TH} {k : F TH} (hx : x ≤ 4) (hn : NodeC x h k) : NodeC 4 h k := fun B mb col p c w h1 h2 h3 h4 h5 h6 => (hn B mb col p c w h1 h2 (by omega) h4 h5 h6).mono fun _ _ he => he.mono hx
theorem node_step (h : TH) (k : F TH) (hN : ∀ h' k', k'.size < k.size → NodeC 4 h' k') : NodeC 4 h k := by
  obtain ⟨kind, v, a, t, st⟩ := h
  by_cases h4 : kind = 4
  · subst h4
    intro B mb col p c w h1 h2 h3 hok h5 h6
    have hk : k = .nil := by
      obtain ⟨⟨-, -, -, h⟩, -⟩ := hok
      rcases h with h | h | h | h
      · exact h.2.1
      · exact absurd h (by decide : ¬ (4 : Int) = 2)
      · exact absurd h.1 (by decide : ¬ (4 : Int) = 3)
      · exact h.2
    subst hk
    exact node4 ⟨4, v, a, t, st⟩ rfl B mb col p c w h1 h2 h3 hok h5 h6
  · have hC : CollN ⟨kind, v, ByteArray.empty, ByteArray.empty, st⟩ k := by
      intro B mb col p c w h1 h2 h3 hok hkd h5 h6
      rcases hkd with h | h
      · simp only at h
        subst h
        exact list_n v ByteArray.empty ByteArray.empty st k hN B mb col p c w h1 h2 h3 hok h5 h6
      · simp only at h
        subst h
        exact pairs_n v ByteArray.empty ByteArray.empty st k hN B mb col p c w h1 h2 h3 hok h5 h6
    have n0 := node0 v kind st k h4 hC
    have n1 : ∃ x : Int, x ≤ 3 ∧ NodeC x ⟨kind, v, a, ByteArray.empty, st⟩ k := by
      by_cases ha : a.size = 0
      · rw [empty_of ha]
        exact ⟨1, by decide, n0⟩
      · exact ⟨3, by decide, node1 v a kind st k h4 ha n0⟩
    obtain ⟨x, hx, n1⟩ := n1
    have n1' : NodeC 3 ⟨kind, v, a, ByteArray.empty, st⟩ k := fun B mb col p c w h1 h2 h3 h4 h5 h6 => (n1 B mb col p c w h1 h2 (by omega) h4 h5 h6).mono fun _ _ he => he.mono hx
    by_cases ht : t.size = 0
    · rw [empty_of ht]
      exact n1'.mono (by decide)
    · exact node2 v a t kind st k h4 ht n1'
theorem node_all : ∀ (n : Nat) (h : TH) (k : F TH), k.size = n → NodeC 4 h k := by
  intro n
  induction n using Nat.strongRecOn with
  | _ n ih =>
    intro h k hn
    exact node_step h k fun h' k' hlt => ih _ (by omega) h' k' rfl
theorem node_any (h : TH) (k : F TH) : NodeC 4 h k := node_all _ h k rfl
def NodeOfR (h : TH) (k : F TH) (w : World) (e : Ending) (w' : World) : Prop :=
  ∃ (h' : NH) (k' : F NH) (p' : Option Addr) (c' : Nat), e = .returned (nval h' (.slice p' k'.len c')) ∧ Sl NS (NewN w.heap.size) w' p' k' ∧ k'.len ≤ c' ∧ k'.size ≤ 200 ∧ (NoPlus h k → k.all NoPlus → NOK h' k' ∧ k'.all NOK) ∧ Below w.heap.size w w'
set_option maxRecDepth 100000 in
set_option maxHeartbeats 400000 in
theorem nodeOf_any (h : TH) (k : F TH) (p : Option Addr) (c : Nat) (w0 : World) (hok : TreeOK h k) (hsz : k.size ≤ 29) (hkc : k.len ≤ c) (hs : Sl TS (fun _ t => t = 24) w0 p k) :
    Calls Tryz.prog 14 #[tval h (.slice p k.len c), .int .i64 1, .int .i64 1] w0 (NodeOfR h k w0) := by
  have HA := Lib.hid (And.intro hok (And.intro hkc hs))
  clear hok hkc hs
  have hst : St w0.heap.size [70] w0 w0 [] := .nil _ _ _ (Nat.le_refl _)
  unfold tval
  go_enter Tryz.func14, Tryz.ntmps14
  go_wp2_with ((first | ((with_reducible refine at_load ?_); first | refine X1 hst ?_ | refine XW hst ?_) | ((with_reducible refine at_store ?_); (first | refine Y1 hst ?_ | refine YW hst ?_); clear hst; intro w hst) | ((first | ((with_reducible refine at_alloc ?_); refine ZP hst ?_) | ((with_reducible refine at_box ?_); refine ZP hst ?_) | ((with_reducible refine at_bslice ?_); refine ZS hst ?_)); clear hst; (first | ((fail_if_success have := b0); intro b0 w hb0 hst) | ((fail_if_success have := b1); intro b1 w hb1 hst) | ((fail_if_success have := b2); intro b2 w hb2 hst) | (intro b3 w hb3 hst)))))
  refine (node_any h k w0.heap.size b2 1 p c _ (hst.rebase (L' := [_]) (.cons_cons _ (List.nil_sublist _)) rfl) (by decide) (by omega) HA.out.1 HA.out.2.1 (HA.out.2.2.hold (TIs.stay hst.kp (by decide) rfl))).mono ?_
  rintro e w1 ⟨h', k', p', c', col', rfl, hsl, hcc, hst2, hz, hz2, hg⟩
  replace hst := (hst.perm (List.perm_append_comm (l₁ := [_]) (l₂ := [_, _])))
  simp only [List.cons_append, List.nil_append] at hst
  have hcall := hst
  replace hst := St.after (L1 := [_, _]) hst hst2 rfl rfl (fun _ h => h)
  simp only [List.cons_append, List.nil_append] at hst
  have hwa := St.watchP (L1 := [_, _]) hst (bs := [b1, b0]) rfl rfl
  simp only [List.cons_append, List.nil_append] at hwa
  have HQ := Lib.hid (And.intro hcall (And.intro hsl (And.intro hcc (And.intro hz (And.intro hz2 (And.intro hg hst))))))
  clear hcall hsl hcc hz hz2 hg hst hst2
  have hst := hwa
  clear hwa
  unfold nval
  go_wp2_with ((first | ((with_reducible refine at_load ?_); first | refine X1 hst ?_ | refine XW hst ?_) | ((with_reducible refine at_store ?_); (first | refine Y1 hst ?_ | refine YW hst ?_); clear hst; intro w hst)))
  refine ret_cell hst rfl rfl (by (repeat' (first | exact List.Mem.head _ | apply List.Mem.tail)); done) (by exact agg_of rfl rfl) rfl ?_
  obtain ⟨hcall, hsl, hcc, hz, hz2, hg, hst1⟩ := HQ.out
  exact ⟨h', k', p', c', rfl, hsl.hold (KidN.stay hcall ⟨_, rfl⟩ hst), hcc, by omega, hg.1, (hst1.unwatch hst (by simp; omega)).kp.below⟩
end Go.Proofs.YtpajcfkldnbpfaaGreatDoor
namespace Go.Proofs.YtpajcfkldnbpfaaGreatDoor
open Go.RowKit
theorem Fresh.stay {E B : Nat} {Ts : Ch} {bl ts : List Nat} {w0 wc w1 w : World} {L Lw : Rws} (hc : St B Ts w0 wc L) (hb : ∃ r, L.map (·.1) = bl.map some ++ r) (h : St B ⟨ts, bl⟩ w1 w Lw) (hE : E ∉ ts) : Hold (fun b t => wc.heap.size ≤ b ∧ t = E) (fun b t => w0.heap.size ≤ b ∧ t = E) w1 w := by
  intro b cs t fr ha hb'
  obtain ⟨r, hr⟩ := hb
  have h1 := ha.1
  have h2 := hc.kp.size
  refine ⟨h.kp.typ b cs t fr hb' (by rw [ha.2]; exact hE) (fun hm => ?_), by omega, ha.2⟩
  have h3 : some b ∈ L.map (·.1) := by rw [hr]; exact List.mem_append_left _ (List.mem_map.2 ⟨b, hm, rfl⟩)
  obtain ⟨⟨x, l, t'⟩, hm2, he⟩ := List.mem_map.1 h3
  simp only at he
  subst he
  have := lt_of_heap (hc.heap hm2)
  omega
theorem St.chain {B : Nat} {Ts : Ch} {w0 w1 w : World} {L1 L : Rws} (h1 : St B Ts w0 w1 L1) (h2 : St B Ts w1 w L) : St B Ts w0 w L :=
  ⟨h1.kp.trans h2.kp, h1.base, fun b l t hm => ⟨h2.heap hm, (h2.rows b l t hm).2.imp (fun h => Nat.le_trans h1.kp.size h) id⟩, h2.ne⟩
def TrNodeR (w : World) (e : Ending) (w' : World) : Prop :=
  ∃ (hT : TH) (kT : F TH) (pT : Option Addr) (cT : Nat) (h : NH) (k : F NH) (p : Option Addr) (c : Nat), e = .returned (.tuple #[nval h (.slice p k.len c), tval hT (.slice pT kT.len cT)]) ∧ Sl TS (New w.heap.size) w' pT kT ∧ kT.len ≤ cT ∧ TreeOK hT kT ∧ kT.size ≤ 29 ∧
    Sl NS (NewN w.heap.size) w' p k ∧ k.len ≤ c ∧ k.size ≤ 200 ∧ (NoPlus hT kT → kT.all NoPlus → NOK h k ∧ k.all NOK) ∧ Below w.heap.size w w'
set_option maxRecDepth 100000 in
set_option maxHeartbeats 400000 in
theorem trNode_any (h : TH) (k : F TH) (p : Option Addr) (c : Nat) (w0 : World) (hi : TIn h) (hk : FIn k) (hkc : k.len ≤ c) (hs : Sl TS (fun b _ => b < w0.heap.size) w0 p k) :
    Calls Tryz.prog 6 #[tval h (.slice p k.len c), .int .i64 63] w0 (TrNodeR w0) := by
  have HA := Lib.hid (And.intro hi (And.intro hk (And.intro hkc hs)))
  clear hi hk hkc hs
  have hst : St w0.heap.size ⟨[], []⟩ w0 w0 [] := .nil _ _ _ (Nat.le_refl _)
  unfold tval
  go_enter Tryz.func6, Tryz.ntmps6
  go_wp2_with ((first | ((with_reducible refine at_load ?_); first | refine X1 hst ?_ | refine XW hst ?_) | ((with_reducible refine at_store ?_); (first | refine Y1 hst ?_ | refine YW hst ?_); clear hst; intro w hst) | ((first | ((with_reducible refine at_alloc ?_); refine ZP hst ?_) | ((with_reducible refine at_box ?_); refine ZP hst ?_) | ((with_reducible refine at_bslice ?_); refine ZS hst ?_)); clear hst; (first | ((fail_if_success have := b0); intro b0 w hb0 hst) | ((fail_if_success have := b1); intro b1 w hb1 hst) | ((fail_if_success have := b2); intro b2 w hb2 hst) | ((fail_if_success have := b3); intro b3 w hb3 hst) | (intro b4 w hb4 hst)))))
  refine (fit_any h k p c b3 1 _ (fun j v hv => by have := hst.cell (b := b3) (off := j) (by (repeat' (first | exact List.Mem.head _ | apply List.Mem.tail)); done) hv; simpa using this) (lt_of_heap (hst.heap (b := b3) (by (repeat' (first | exact List.Mem.head _ | apply List.Mem.tail)); done))) HA.out.1 HA.out.2.1 HA.out.2.2.1 (HA.out.2.2.2.hold (Hold.kp hst.kp fun b t h => ⟨.inl h, Nat.lt_of_lt_of_le h hst.kp.size⟩))).mono ?_
  rintro e w1 ⟨g, cap, hT, kT, pT, cT, rfl, hcells, hslT, hccT, hokT, hszT, hb⟩
  have hcall := hst
  replace hst := hst.below hb
  have hwa := St.watchP (L1 := [_, _, _, _]) (L2 := []) hst (bs := [b3, b2, b1, b0]) rfl rfl
  simp only [List.cons_append, List.nil_append] at hwa
  have HQ := Lib.hid (And.intro hcall (And.intro hslT (And.intro hccT (And.intro hokT (And.intro hszT hst)))))
  have HC := Lib.hid hcells
  clear hcall hslT hccT hokT hszT hst hb hcells
  have hst := hwa
  clear hwa
  go_upto_region 2 with (first | ((with_reducible refine at_load ?_); refine wl_ldc (vs := [.int .i64 hT.kind, .string hT.v, .string hT.a, .string hT.t, .int .i64 hT.st, .slice pT kT.len cT]) rfl rfl rfl HC.out (by exact agg_of rfl rfl) ?_) | (first | ((with_reducible refine at_load ?_); first | refine X1 hst ?_ | refine XW hst ?_) | ((with_reducible refine at_store ?_); (first | refine Y1 hst ?_ | refine YW hst ?_); clear hst; intro w hst)))
  go_frame
  refine wp_plan (fun w => St w0.heap.size ⟨[], [b3, b2, b1, b0]⟩ w1 w [(some b0, [.int .i64 hT.kind, .string hT.v, .string hT.a, .string hT.t, .int .i64 hT.st, .slice pT kT.len cT], 24)]) [0, 2] (.q 0 (.q 2 (.e 1 true (.e 3 true (.e 4 false (.fin)))))) mixed (by kernel_rfl) (by kernel_rfl) (by kernel_rfl) (fun d v c a w h => by cases d <;> exact h) (hst.drew.sub (.cons _ (.cons _ (.cons _ (.cons_cons _ (List.nil_sublist _)))))) ?_
  replace hst := hst.drew
  repeat ((refine AQ ?_); first | (refine Q1 ?_; go_frame) | (refine QW ?_; go_frame) | (refine QV ?_; go_frame))
  have hslT := HQ.out.2.1.hold (Fresh.stay (E := 24) HQ.out.1 ⟨_, rfl⟩ hst List.not_mem_nil)
  have HT := Lib.hid hslT
  clear hslT
  refine at_e (by simp only [List.getElem?_toArray, List.getElem?_cons_succ, List.getElem?_cons_zero]; rfl) rfl ?_
  refine e_call (by go_simp <;> first | rfl | exact ⟨rfl, rfl⟩) (nodeOf_any hT kT pT cT _ HQ.out.2.2.2.1 (by have := HQ.out.2.2.2.2.1; omega) HQ.out.2.2.1 (HT.out.hold fun b cs t fr ha hb => ⟨hb, ha.2⟩)) ?_
  rintro e w2 ⟨h', k', p', c', rfl, hsl, hcc, hsz, hg, hb⟩
  have hslT := HT.out.hold (Hold.below hb fun b t h => h)
  have hcall := HQ.out.2.2.2.2.2.unwatch (Ts := ⟨[], []⟩) hst (by simp; omega)
  replace hst := hst.below hb
  have hst1 := HQ.out.2.2.2.2.2.unwatch (Ts := ⟨[], []⟩) hst (by simp; omega)
  have hlow := (St.unwatch (Ts := ⟨[], []⟩) HQ.out.2.2.2.2.2 hst (by simp; omega)).kp.below
  have hwa := St.watchP (Ts := ⟨[], []⟩) (L1 := [_, _, _, _]) (L2 := []) hst1 (bs := [b3, b2, b1, b0]) rfl rfl
  simp only [List.cons_append, List.nil_append] at hwa
  have HN := Lib.hid (And.intro hcall (And.intro hsl (And.intro hcc (And.intro hsz (And.intro hg (And.intro hst1 hslT))))))
  have HST := Lib.hid hst
  clear hcall hsl hcc hsz hg hst1 hslT hb hst hlow
  have hst := hwa
  clear hwa
  refine ⟨_, rfl, fun _ => HST.out.sub (.cons _ (.cons _ (.cons _ (.cons_cons _ (List.nil_sublist _))))), ?_⟩
  unfold nval
  go_frame
  refine at_e (by simp only [List.getElem?_toArray, List.getElem?_cons_succ, List.getElem?_cons_zero]; rfl) rfl ?_
  refine EW hst ?_
  clear hst
  intro w hst
  refine ⟨fun _ => (HST.out.chain hst).sub (.cons _ (.cons _ (.cons _ (.cons_cons _ (List.nil_sublist _))))), ?_⟩
  go_frame
  refine at_e (by simp only [List.getElem?_toArray, List.getElem?_cons_succ, List.getElem?_cons_zero]; rfl) rfl ?_
  (refine EW hst ?_; clear hst; intro w hst; refine ⟨?_, ?_⟩; rotate_left; go_frame)
  · unfold wpP
    go_wp2_with ((first | ((with_reducible refine at_load ?_); first | refine X1 hst ?_ | refine XW hst ?_) | ((with_reducible refine at_store ?_); (first | refine Y1 hst ?_ | refine YW hst ?_); clear hst; intro w hst)))
    refine ret_cell2 hst rfl rfl (b := b1) (by (repeat' (first | exact List.Mem.head _ | apply List.Mem.tail)); done) (by exact agg_of rfl rfl) rfl (b2 := b2) (by (repeat' (first | exact List.Mem.head _ | apply List.Mem.tail)); done) (by exact agg_of rfl rfl) rfl ?_
    obtain ⟨hcall, hsl, hcc, hsz, hg, hst1, hslT⟩ := HN.out
    have h1 := hcall.kp.size
    refine ⟨hT, kT, pT, cT, h', k', p', c', rfl, HQ.out.2.1.hold (Fresh.stay (E := 24) HQ.out.1 ⟨_, rfl⟩ (HST.out.chain hst) List.not_mem_nil), HQ.out.2.2.1, HQ.out.2.2.2.1, by have := HQ.out.2.2.2.2.1; omega, hsl.hold (Fresh.stay (E := 31) hcall ⟨_, rfl⟩ hst List.not_mem_nil), hcc, hsz, hg, (hst1.unwatch (Ts := ⟨[], []⟩) hst (by simp; omega)).kp.below⟩
  · intro h; cases h
end Go.Proofs.YtpajcfkldnbpfaaGreatDoor
namespace Go.Proofs.YtpajcfkldnbpfaaGreatDoor
open Go.RowKit
def Blk (w : World) (b t : Nat) (l : List Value) : Prop := w.heap[b]? = some (.cells l.toArray t (0, 0))
theorem Blk.below {w w' : World} {b t : Nat} {l : List Value} (h : Blk w b t l) (hb : Below w.heap.size w w') : Blk w' b t l := (hb.block b (lt_of_heap h)).trans h
theorem Blk.lt {w : World} {b t : Nat} {l : List Value} (h : Blk w b t l) : b < w.heap.size := lt_of_heap h
theorem Blk.cell {w : World} {b t : Nat} {l : List Value} (h : Blk w b t l) {off : Nat} {v : Value} (hv : l[off]? = some v) : w.cell? ⟨b, off, none⟩ = some v := by
  unfold Blk at h
  simpa [World.cell?, h] using hv
theorem St.blk {B : Nat} {Ts : Ch} {w0 w : World} {L : Rws} (h : St B Ts w0 w L) {b t : Nat} {l : List Value} (hm : (some b, l, t) ∈ L) : Blk w b t l := h.heap hm
abbrev ptr (b : Nat) : Value := .pointer (some ⟨b, 0, none⟩)
set_option maxHeartbeats 400000 in
theorem small_any (c : Int) (w : World) (h0 : 0 ≤ c) (h2 : c ≤ 200) : Calls Tryz.prog 58 #[.int .i64 c] w fun e w' => e = .returned (.int .i64 c) ∧ w = w' := by
  have h1 : ¬ (c < 0) := by omega
  have h3 : ¬ (200 < c) := by omega
  go_enter Tryz.func58, Tryz.ntmps58
  go_wp2
  exact ret_tmp rfl rfl rfl ⟨rfl, rfl⟩
def NewP (t : Nat) (l : List Value) (w : World) (e : Ending) (w' : World) : Prop := ∃ b, e = .returned (ptr b) ∧ w.heap.size ≤ b ∧ Blk w' b t l ∧ Below w.heap.size w w'
set_option maxRecDepth 100000 in
set_option maxHeartbeats 400000 in
theorem position_any (c o : Int) (w0 : World) (h0 : 1 ≤ c) (h2 : c ≤ 200) : Calls Tryz.prog 31 #[.agg #[.int .i64 1, .int .i64 c, .int .i64 o, .int .i64 0, .int .i64 0]] w0 (NewP 186 [.int .i64 1, .int .i64 c, .int .i64 o, .int .i64 0, .int .i64 0] w0) := by
  have hst := St.nil w0.heap.size ⟨[], []⟩ w0 (Nat.le_refl _)
  go_enter Tryz.func31, Tryz.ntmps31
  go_upto_region 1 with ((first | ((with_reducible refine at_load ?_); first | refine X1 hst ?_ | refine XW hst ?_) | ((with_reducible refine at_store ?_); (first | refine Y1 hst ?_ | refine YW hst ?_); clear hst; intro w hst) | ((first | ((with_reducible refine at_alloc ?_); refine ZP hst ?_) | ((with_reducible refine at_box ?_); refine ZP hst ?_) | ((with_reducible refine at_bslice ?_); refine ZS hst ?_)); clear hst; (first | ((fail_if_success have := b0); intro b0 w hb0 hst) | ((fail_if_success have := b1); intro b1 w hb1 hst) | (intro b2 w hb2 hst)))))
  refine wp_plan (fun w => St w0.heap.size ⟨[], []⟩ w0 w [(some b0, [.int .i64 1, .int .i64 c, .int .i64 o, .int .i64 0, .int .i64 0], 27)]) [0, 1, 2, 3, 5, 6, 7, 8, 9, 11, 12, 13, 15] (.q 0 (.q 1 (.q 2 (.q 3 (.q 6 (.q 7 (.q 8 (.q 9 (.q 11 (.q 12 (.e 4 true (.q 5 (.e 10 true (.q 13 (.e 14 true (.q 15 (.fin))))))))))))))))) mixed (by kernel_rfl) (by kernel_rfl) (by kernel_rfl) (fun d v c a w h => by cases d <;> exact h) hst.drew ?_
  replace hst := hst.drew
  repeat ((refine AQ ?_); first | (refine Q1 ?_; go_frame) | (refine QW ?_; go_frame) | (refine QV ?_; go_frame))
  refine at_e (by simp only [List.getElem?_toArray, List.getElem?_cons_succ, List.getElem?_cons_zero]; rfl) rfl ?_
  refine e_call (by go_simp <;> first | rfl | exact ⟨rfl, rfl⟩) (small_any c _ (by omega) h2) ?_
  rintro e w1 ⟨rfl, rfl⟩
  refine ⟨_, rfl, fun _ => hst, ?_⟩
  go_frame
  (refine AQ ?_)
  refine q_val rfl (v := .int .i64 c) ?_ ?_
  · intro w' hS
    have hm : ¬ c < 1 := by omega
    go_simp
    omega
  go_frame
  refine at_e (by simp only [List.getElem?_toArray, List.getElem?_cons_succ, List.getElem?_cons_zero]; rfl) rfl ?_
  refine e_call (by go_simp <;> first | rfl | exact ⟨rfl, rfl⟩) (small_any 0 _ (by decide) (by decide)) ?_
  rintro e w1 ⟨rfl, rfl⟩
  refine ⟨_, rfl, fun _ => hst, ?_⟩
  go_frame
  repeat ((refine AQ ?_); first | (refine Q1 ?_; go_frame) | (refine QW ?_; go_frame) | (refine QV ?_; go_frame))
  refine at_e (by simp only [List.getElem?_toArray, List.getElem?_cons_succ, List.getElem?_cons_zero]; rfl) rfl ?_
  refine p_new hst (by go_simp; rfl) ?_
  clear hst
  intro b1 w hb1 hst
  refine ⟨fun _ => hst.sub (.cons _ (List.Sublist.refl _)), ?_⟩
  go_frame
  repeat ((refine AQ ?_); first | (refine Q1 ?_; go_frame) | (refine QW ?_; go_frame) | (refine QV ?_; go_frame))
  unfold wpP
  go_wp2_with fail
  exact ret_tmp rfl rfl rfl ⟨b1, rfl, hb1, hst.blk (by (repeat' (first | exact List.Mem.head _ | apply List.Mem.tail)); done), hst.kp.below⟩
set_option maxHeartbeats 400000 in
theorem comments_nil (p : Option Addr) (w : World) : Calls Tryz.prog 33 #[.slice none 0 0, .pointer p] w fun e w' => e = .returned (.pointer none) ∧ w = w' := by
  go_enter Tryz.func33, Tryz.ntmps33
  go_wp2
  exact ret_tmp rfl rfl rfl ⟨rfl, rfl⟩
end Go.Proofs.YtpajcfkldnbpfaaGreatDoor
namespace Go.Proofs.YtpajcfkldnbpfaaGreatDoor
open Go.RowKit
def tyOf : Int → Nat
  | 2 => 106
  | 3 => 109
  | 4 => 113
  | 5 => 117
  | 6 => 120
  | 7 => 123
  | 8 => 125
  | 10 => 130
  | 11 => 133
  | 13 => 137
  | 14 => 145
  | 16 => 150
  | 17 => 154
  | 19 => 159
  | _ => 0
def nodeV (h : NH) (b : Nat) : Value := .iface (tyOf h.kind) (ptr b)
def ifs : F NH → List Nat → List Value
  | .cons h _ r, b :: bs => nodeV h b :: ifs r bs
  | _, _ => []
def SlV (w : World) (t : Nat) (p : Option Addr) (vs : List Value) : Prop := vs = [] ∨ ∃ b sp, p = some ⟨b, 0, none⟩ ∧ Blk w b t (vs ++ sp)
def DigV (v : Value) (s : ByteArray) : Prop := ∃ n : Int, ((v = .iface 2 (.int .i64 n) ∧ -9223372036854775808 ≤ n ∧ n < 9223372036854775808) ∨ (v = .iface 211 (.int .u64 n) ∧ 0 ≤ n ∧ n < 18446744073709551616)) ∧ s.data.toList = Lib.itoa n
def NodeAt (w : World) (h : NH) (k : F NH) (ba tk b : Nat) (kb : List Nat) : Prop :=
  (h.kind = 2 ∧ Blk w b 108 [ptr ba, ptr tk]) ∨
  (h.kind = 3 ∧ ∃ v : Bool, Blk w b 111 [ptr ba, ptr tk, .bool v] ∧ h.value = (if v then ⟨#[116, 114, 117, 101]⟩ else ⟨#[102, 97, 108, 115, 101]⟩)) ∨
  (h.kind = 4 ∧ ∃ v, Blk w b 115 [ptr ba, ptr tk, v] ∧ DigV v h.value) ∨
  (h.kind = 5 ∧ ∃ f, Blk w b 119 [ptr ba, ptr tk, .int .i64 0, .float .f64 f]) ∨
  (h.kind = 6 ∧ ∃ f, Blk w b 122 [ptr ba, ptr tk, .float .f64 f] ∧ ((f = 9218868437227405312 ∧ h.value = ⟨#[43, 73, 110, 102]⟩) ∨ (f = 18442240474082181120 ∧ h.value = ⟨#[45, 73, 110, 102]⟩))) ∨
  (h.kind = 7 ∧ h.value = ⟨#[78, 97, 78]⟩ ∧ Blk w b 124 [ptr ba, ptr tk]) ∨
  (h.kind = 8 ∧ Blk w b 127 [ptr ba, ptr tk, .string h.value]) ∨
  (h.kind = 10 ∧ ∃ k0, kb = [k0] ∧ Blk w b 132 [ptr ba, ptr tk, ptr k0]) ∨
  (h.kind = 11 ∧ ∃ p c, kb.length ≤ c ∧ SlV w 137 p (kb.map ptr) ∧ Blk w b 136 [ptr ba, ptr tk, .pointer none, .bool h.flow, .slice p kb.length c, .pointer none]) ∨
  (h.kind = 13 ∧ ∃ v0 v1, ifs k kb = [v0, v1] ∧ Blk w b 144 [ptr ba, ptr tk, .pointer none, v0, v1, .pointer none, .bool h.flow]) ∨
  (h.kind = 14 ∧ ∃ p c pc cc, kb.length ≤ c ∧ kb.length ≤ cc ∧ SlV w 55 p (ifs k kb) ∧ SlV w 93 pc (List.replicate kb.length (.pointer none)) ∧ Blk w b 149 [ptr ba, ptr tk, .pointer none, .bool h.flow, .slice p kb.length c, .slice pc kb.length cc, .slice none 0 0, .pointer none]) ∨
  (h.kind = 16 ∧ ∃ v0 v1, ifs k kb = [v0, v1] ∧ Blk w b 152 [ptr ba, ptr tk, v0, v1]) ∨
  (h.kind = 17 ∧ ∃ v0, ifs k kb = [v0] ∧ Blk w b 155 [ptr ba, ptr tk, v0]) ∨
  (h.kind = 19 ∧ ∃ v0, ifs k kb = [v0] ∧ Blk w b 161 [ptr ba, .pointer none, ptr tk, v0])
def TokAt (w : World) (c : Int) (h : NH) (tk pb : Nat) : Prop :=
  Blk w tk 92 [.int .i64 h.typ, .int .i64 0, .int .i64 0, .string h.text, .string h.text, .string ByteArray.empty, ptr pb, .pointer none, .pointer none] ∧ Blk w pb 186 [.int .i64 1, .int .i64 (h.col + c), .int .i64 h.off, .int .i64 0, .int .i64 0]
def AstN (w : World) (c : Int) : Nat → Nat → F NH → List Nat → Prop
  | lo, hi, .nil, bs => bs = [] ∧ lo ≤ hi
  | lo, hi, .cons h k r, bs => ∃ b bs' ba tk pb m1 mid kb, bs = b :: bs' ∧ lo ≤ pb ∧ pb < m1 ∧ TokAt w c h tk pb ∧ Blk w ba 235 [.string ByteArray.empty, .pointer none, .int .i64 0] ∧ NodeAt w h k ba tk b kb ∧ AstN w c m1 mid k kb ∧ AstN w c mid hi r bs'
end Go.Proofs.YtpajcfkldnbpfaaGreatDoor
namespace Go.Proofs.YtpajcfkldnbpfaaGreatDoor
open Go.RowKit
def baseL : List Value := [.string ByteArray.empty, .pointer none, .int .i64 0]
def NewB2 (t : Nat) (f : Nat → List Value) (w : World) (e : Ending) (w' : World) : Prop := ∃ b ba, e = .returned (ptr b) ∧ w.heap.size ≤ b ∧ w.heap.size ≤ ba ∧ Blk w' b t (f ba) ∧ Blk w' ba 235 [.string ByteArray.empty, .pointer none, .int .i64 0] ∧ Below w.heap.size w w'
set_option maxHeartbeats 400000 in
theorem null_any (tk : Nat) (w0 : World) : Calls Tryz.prog 78 #[ptr tk] w0 (NewB2 108 (fun ba => [ptr ba, ptr tk]) w0) := by
  (have hst := St.nil w0.heap.size ⟨[], []⟩ w0 (Nat.le_refl _))
  go_enter Tryz.func78, Tryz.ntmps78
  go_wp2_with ((first | ((with_reducible refine at_load ?_); first | refine X1 hst ?_ | refine XW hst ?_) | ((with_reducible refine at_store ?_); (first | refine Y1 hst ?_ | refine YW hst ?_); clear hst; intro w hst) | ((first | ((with_reducible refine at_alloc ?_); refine ZP hst ?_) | ((with_reducible refine at_box ?_); refine ZP hst ?_) | ((with_reducible refine at_bslice ?_); refine ZS hst ?_)); clear hst; (first | ((fail_if_success have := b0); intro b0 w hb0 hst) | ((fail_if_success have := b1); intro b1 w hb1 hst) | (intro b2 w hb2 hst)))))
  exact ret_tmp rfl rfl rfl ⟨b1, b0, rfl, hb1, hb0, hst.blk (by (repeat' (first | exact List.Mem.head _ | apply List.Mem.tail)); done), hst.blk (by (repeat' (first | exact List.Mem.head _ | apply List.Mem.tail)); done), hst.kp.below⟩
set_option maxHeartbeats 400000 in
theorem nan_any (tk : Nat) (w0 : World) : Calls Tryz.prog 64 #[ptr tk] w0 (NewB2 124 (fun ba => [ptr ba, ptr tk]) w0) := by
  (have hst := St.nil w0.heap.size ⟨[], []⟩ w0 (Nat.le_refl _))
  go_enter Tryz.func64, Tryz.ntmps64
  go_wp2_with ((first | ((with_reducible refine at_load ?_); first | refine X1 hst ?_ | refine XW hst ?_) | ((with_reducible refine at_store ?_); (first | refine Y1 hst ?_ | refine YW hst ?_); clear hst; intro w hst) | ((first | ((with_reducible refine at_alloc ?_); refine ZP hst ?_) | ((with_reducible refine at_box ?_); refine ZP hst ?_) | ((with_reducible refine at_bslice ?_); refine ZS hst ?_)); clear hst; (first | ((fail_if_success have := b0); intro b0 w hb0 hst) | ((fail_if_success have := b1); intro b1 w hb1 hst) | (intro b2 w hb2 hst)))))
  exact ret_tmp rfl rfl rfl ⟨b1, b0, rfl, hb1, hb0, hst.blk (by (repeat' (first | exact List.Mem.head _ | apply List.Mem.tail)); done), hst.blk (by (repeat' (first | exact List.Mem.head _ | apply List.Mem.tail)); done), hst.kp.below⟩
set_option maxHeartbeats 400000 in
theorem literal_any (tk : Nat) (w0 : World) : Calls Tryz.prog 67 #[ptr tk] w0 (NewB2 132 (fun ba => [ptr ba, ptr tk, .pointer none]) w0) := by
  (have hst := St.nil w0.heap.size ⟨[], []⟩ w0 (Nat.le_refl _))
  go_enter Tryz.func67, Tryz.ntmps67
  go_wp2_with ((first | ((with_reducible refine at_load ?_); first | refine X1 hst ?_ | refine XW hst ?_) | ((with_reducible refine at_store ?_); (first | refine Y1 hst ?_ | refine YW hst ?_); clear hst; intro w hst) | ((first | ((with_reducible refine at_alloc ?_); refine ZP hst ?_) | ((with_reducible refine at_box ?_); refine ZP hst ?_) | ((with_reducible refine at_bslice ?_); refine ZS hst ?_)); clear hst; (first | ((fail_if_success have := b0); intro b0 w hb0 hst) | ((fail_if_success have := b1); intro b1 w hb1 hst) | (intro b2 w hb2 hst)))))
  exact ret_tmp rfl rfl rfl ⟨b1, b0, rfl, hb1, hb0, hst.blk (by (repeat' (first | exact List.Mem.head _ | apply List.Mem.tail)); done), hst.blk (by (repeat' (first | exact List.Mem.head _ | apply List.Mem.tail)); done), hst.kp.below⟩
set_option maxHeartbeats 400000 in
theorem anchor_any (tk : Nat) (w0 : World) : Calls Tryz.prog 74 #[ptr tk] w0 (NewB2 152 (fun ba => [ptr ba, ptr tk, .nilIface, .nilIface]) w0) := by
  (have hst := St.nil w0.heap.size ⟨[], []⟩ w0 (Nat.le_refl _))
  go_enter Tryz.func74, Tryz.ntmps74
  go_wp2_with ((first | ((with_reducible refine at_load ?_); first | refine X1 hst ?_ | refine XW hst ?_) | ((with_reducible refine at_store ?_); (first | refine Y1 hst ?_ | refine YW hst ?_); clear hst; intro w hst) | ((first | ((with_reducible refine at_alloc ?_); refine ZP hst ?_) | ((with_reducible refine at_box ?_); refine ZP hst ?_) | ((with_reducible refine at_bslice ?_); refine ZS hst ?_)); clear hst; (first | ((fail_if_success have := b0); intro b0 w hb0 hst) | ((fail_if_success have := b1); intro b1 w hb1 hst) | (intro b2 w hb2 hst)))))
  exact ret_tmp rfl rfl rfl ⟨b1, b0, rfl, hb1, hb0, hst.blk (by (repeat' (first | exact List.Mem.head _ | apply List.Mem.tail)); done), hst.blk (by (repeat' (first | exact List.Mem.head _ | apply List.Mem.tail)); done), hst.kp.below⟩
set_option maxHeartbeats 400000 in
theorem alias_any (tk : Nat) (w0 : World) : Calls Tryz.prog 75 #[ptr tk] w0 (NewB2 155 (fun ba => [ptr ba, ptr tk, .nilIface]) w0) := by
  (have hst := St.nil w0.heap.size ⟨[], []⟩ w0 (Nat.le_refl _))
  go_enter Tryz.func75, Tryz.ntmps75
  go_wp2_with ((first | ((with_reducible refine at_load ?_); first | refine X1 hst ?_ | refine XW hst ?_) | ((with_reducible refine at_store ?_); (first | refine Y1 hst ?_ | refine YW hst ?_); clear hst; intro w hst) | ((first | ((with_reducible refine at_alloc ?_); refine ZP hst ?_) | ((with_reducible refine at_box ?_); refine ZP hst ?_) | ((with_reducible refine at_bslice ?_); refine ZS hst ?_)); clear hst; (first | ((fail_if_success have := b0); intro b0 w hb0 hst) | ((fail_if_success have := b1); intro b1 w hb1 hst) | (intro b2 w hb2 hst)))))
  exact ret_tmp rfl rfl rfl ⟨b1, b0, rfl, hb1, hb0, hst.blk (by (repeat' (first | exact List.Mem.head _ | apply List.Mem.tail)); done), hst.blk (by (repeat' (first | exact List.Mem.head _ | apply List.Mem.tail)); done), hst.kp.below⟩
set_option maxHeartbeats 400000 in
theorem tagN_any (tk : Nat) (w0 : World) : Calls Tryz.prog 77 #[ptr tk] w0 (NewB2 161 (fun ba => [ptr ba, .pointer none, ptr tk, .nilIface]) w0) := by
  (have hst := St.nil w0.heap.size ⟨[], []⟩ w0 (Nat.le_refl _))
  go_enter Tryz.func77, Tryz.ntmps77
  go_wp2_with ((first | ((with_reducible refine at_load ?_); first | refine X1 hst ?_ | refine XW hst ?_) | ((with_reducible refine at_store ?_); (first | refine Y1 hst ?_ | refine YW hst ?_); clear hst; intro w hst) | ((first | ((with_reducible refine at_alloc ?_); refine ZP hst ?_) | ((with_reducible refine at_box ?_); refine ZP hst ?_) | ((with_reducible refine at_bslice ?_); refine ZS hst ?_)); clear hst; (first | ((fail_if_success have := b0); intro b0 w hb0 hst) | ((fail_if_success have := b1); intro b1 w hb1 hst) | (intro b2 w hb2 hst)))))
  exact ret_tmp rfl rfl rfl ⟨b1, b0, rfl, hb1, hb0, hst.blk (by (repeat' (first | exact List.Mem.head _ | apply List.Mem.tail)); done), hst.blk (by (repeat' (first | exact List.Mem.head _ | apply List.Mem.tail)); done), hst.kp.below⟩
set_option maxHeartbeats 400000 in
theorem mvalue_any (tk ta tb : Nat) (x y : Value) (w0 : World) : Calls Tryz.prog 106 #[ptr tk, .iface ta x, .iface tb y] w0 (NewB2 144 (fun ba => [ptr ba, ptr tk, .pointer none, .iface ta x, .iface tb y, .pointer none, .bool false]) w0) := by
  (have hst := St.nil w0.heap.size ⟨[], []⟩ w0 (Nat.le_refl _))
  go_enter Tryz.func106, Tryz.ntmps106
  go_wp2_with ((first | ((with_reducible refine at_load ?_); first | refine X1 hst ?_ | refine XW hst ?_) | ((with_reducible refine at_store ?_); (first | refine Y1 hst ?_ | refine YW hst ?_); clear hst; intro w hst) | ((first | ((with_reducible refine at_alloc ?_); refine ZP hst ?_) | ((with_reducible refine at_box ?_); refine ZP hst ?_) | ((with_reducible refine at_bslice ?_); refine ZS hst ?_)); clear hst; (first | ((fail_if_success have := b0); intro b0 w hb0 hst) | ((fail_if_success have := b1); intro b1 w hb1 hst) | (intro b2 w hb2 hst)))))
  exact ret_tmp rfl rfl rfl ⟨b1, b0, rfl, hb1, hb0, hst.blk (by (repeat' (first | exact List.Mem.head _ | apply List.Mem.tail)); done), hst.blk (by (repeat' (first | exact List.Mem.head _ | apply List.Mem.tail)); done), hst.kp.below⟩
set_option maxHeartbeats 400000 in
theorem sequence_any (tk : Nat) (flow : Bool) (w0 : World) : Calls Tryz.prog 107 #[ptr tk, .bool flow] w0 (fun e w' => ∃ g, NewB2 149 (fun ba => [ptr ba, ptr tk, .pointer none, .bool flow, .slice (some ⟨g, 0, none⟩) 0 0, .slice none 0 0, .slice none 0 0, .pointer none]) w0 e w' ∧ w0.heap.size ≤ g ∧ Blk w' g 55 []) := by
  (have hst := St.nil w0.heap.size ⟨[], []⟩ w0 (Nat.le_refl _))
  go_enter Tryz.func107, Tryz.ntmps107
  go_wp2_with ((first | ((with_reducible refine at_load ?_); first | refine X1 hst ?_ | refine XW hst ?_) | ((with_reducible refine at_store ?_); (first | refine Y1 hst ?_ | refine YW hst ?_); clear hst; intro w hst) | ((first | ((with_reducible refine at_alloc ?_); refine ZP hst ?_) | ((with_reducible refine at_box ?_); refine ZP hst ?_) | ((with_reducible refine at_bslice ?_); refine ZS hst ?_)); clear hst; (first | ((fail_if_success have := b0); intro b0 w hb0 hst) | ((fail_if_success have := b1); intro b1 w hb1 hst) | ((fail_if_success have := b2); intro b2 w hb2 hst) | (intro b3 w hb3 hst)))))
  refine ret_tmp rfl rfl rfl ?_
  exact ⟨b1, ⟨b2, b0, rfl, hb2, hb0, hst.blk (by (repeat' (first | exact List.Mem.head _ | apply List.Mem.tail)); done), hst.blk (by (repeat' (first | exact List.Mem.head _ | apply List.Mem.tail)); done), hst.kp.below⟩, hb1, hst.blk (by (repeat' (first | exact List.Mem.head _ | apply List.Mem.tail)); done)⟩
def tokL (h : NH) (pb : Nat) : List Value := [.int .i64 h.typ, .int .i64 0, .int .i64 0, .string h.text, .string h.text, .string ByteArray.empty, ptr pb, .pointer none, .pointer none]
set_option maxHeartbeats 400000 in
theorem string_any (tk pb : Nat) (h : NH) (w0 : World) (ht : Blk w0 tk 92 [.int .i64 h.typ, .int .i64 0, .int .i64 0, .string h.text, .string h.text, .string ByteArray.empty, ptr pb, .pointer none, .pointer none]) : Calls Tryz.prog 104 #[ptr tk] w0 (NewB2 127 (fun ba => [ptr ba, ptr tk, .string h.text]) w0) := by
  (have hst := St.nil w0.heap.size ⟨[], []⟩ w0 (Nat.le_refl _))
  have c3 := ht.cell (off := 3) rfl
  go_enter Tryz.func104, Tryz.ntmps104
  go_wp2_with (first | ((with_reducible refine at_load ?_); refine wl_ldc1 rfl rfl rfl ((ht.below hst.kp.below).cell (off := 3) rfl) (one_of (by decide +kernel)) ?_) | (first | ((with_reducible refine at_load ?_); first | refine X1 hst ?_ | refine XW hst ?_) | ((with_reducible refine at_store ?_); (first | refine Y1 hst ?_ | refine YW hst ?_); clear hst; intro w hst) | ((first | ((with_reducible refine at_alloc ?_); refine ZP hst ?_) | ((with_reducible refine at_box ?_); refine ZP hst ?_) | ((with_reducible refine at_bslice ?_); refine ZS hst ?_)); clear hst; (first | ((fail_if_success have := b0); intro b0 w hb0 hst) | ((fail_if_success have := b1); intro b1 w hb1 hst) | (intro b2 w hb2 hst)))))
  exact ret_tmp rfl rfl rfl ⟨b1, b0, rfl, hb1, hb0, hst.blk (by (repeat' (first | exact List.Mem.head _ | apply List.Mem.tail)); done), hst.blk (by (repeat' (first | exact List.Mem.head _ | apply List.Mem.tail)); done), hst.kp.below⟩
end Go.Proofs.YtpajcfkldnbpfaaGreatDoor
namespace Go.Proofs.YtpajcfkldnbpfaaGreatDoor
open Go.RowKit
theorem p_sub {P : Program} {ops : Array Oper} {Q : Exit → Act → World → Prop} {B : Nat} {Ts : Ch} {w0 w : World} {L1 : Rws} {a : Act} {p : Plan} {o : Oper} {T : Nat} {x : Operand} {b off : Nat} {l vs : List Value} {t : Nat} (hs : Sub l off vs) (hg : o.guard = none) (hop : o.op = .load T x) (hx : a.eval x = .pointer (some ⟨b, off, none⟩)) (hm : (some b, l, t) ∈ L1) (hT : aggOf P T vs.length = true)
    (h : wpP P ops Q (fun w => St B Ts w0 w L1) p (a.put o.dst (.agg vs.toArray)) w) : WQ P ops Q (fun w => St B Ts w0 w L1) o p a w :=
  q_val hg (fun _ hS => ld_sub hS hop hx hm hs hT) h
theorem St.addNew {B : Nat} {Ts : Ch} {w0 w w' : World} {L : Rws} (h : St B Ts w0 w L) (hb : Below w.heap.size w w') {b t : Nat} {l : List Value} (hlo : w.heap.size ≤ b) (hblk : Blk w' b t l) : St B Ts w0 w' ((some b, l, t) :: L) := by
  have h2 := h.below hb
  refine ⟨h2.kp, h2.base, fun b' l' t' hm => ?_, .cons (fun y hy b' hb' hc => ?_) h2.ne⟩
  · rcases List.mem_cons.1 hm with e | hm
    · cases e
      exact ⟨hblk, .inl (Nat.le_trans h.kp.size hlo)⟩
    · exact h2.rows b' l' t' hm
  · cases hb'
    obtain ⟨yb, yl, yt⟩ := y
    simp only at hc
    subst hc
    have := lt_of_heap (h.heap hy)
    omega
theorem St.addNew2 {B : Nat} {Ts : Ch} {w0 w w' : World} {L : Rws} (h : St B Ts w0 w L) (hb : Below w.heap.size w w') {b b' t t' : Nat} {l l' : List Value} (hlo : w.heap.size ≤ b) (hlo' : w.heap.size ≤ b') (hblk : Blk w' b t l) (hblk' : Blk w' b' t' l') (ht : t ≠ t') : St B Ts w0 w' ((some b, l, t) :: (some b', l', t') :: L) := by
  have h2 := h.addNew hb hlo' hblk'
  refine ⟨h2.kp, h2.base, fun x lx tx hm => ?_, .cons (fun y hy x hx hc => ?_) h2.ne⟩
  · rcases List.mem_cons.1 hm with e | hm
    · cases e
      exact ⟨hblk, .inl (Nat.le_trans h.kp.size hlo)⟩
    · exact h2.rows x lx tx hm
  · cases hx
    obtain ⟨yb, yl, yt⟩ := y
    simp only at hc
    subst hc
    rcases List.mem_cons.1 hy with e | hy
    · cases e
      unfold Blk at hblk hblk'
      rw [hblk] at hblk'
      injection hblk' with e
      injection e with e1 e2
      exact ht e2
    · have := lt_of_heap (h.heap hy)
      omega
def TextR (h : NH) (w : World) (e : Ending) (w' : World) : Prop := ∃ b ba tk pb, e = .returned (ptr b) ∧ w.heap.size ≤ pb ∧ pb < w'.heap.size ∧ w.heap.size ≤ b ∧ w.heap.size ≤ ba ∧ w.heap.size ≤ tk ∧ TokAt w' 0 h tk pb ∧ Blk w' ba 235 [.string ByteArray.empty, .pointer none, .int .i64 0] ∧ Blk w' b 127 [ptr ba, ptr tk, .string h.value] ∧ Below w.heap.size w w'
theorem TokAt.below {w w' : World} {c : Int} {h : NH} {tk pb : Nat} (ht : TokAt w c h tk pb) (hb : Below w.heap.size w w') : TokAt w' c h tk pb := ⟨ht.1.below hb, ht.2.below hb⟩
set_option maxRecDepth 100000 in
set_option maxHeartbeats 1000000 in
theorem text_any (h : NH) (p : Option Addr) (n c : Nat) (w0 : World) (h1 : 1 ≤ h.col) (h2 : h.col ≤ 200) : Calls Tryz.prog 65 #[nval h (.slice p n c)] w0 (TextR h w0) := by
  have hst := St.nil w0.heap.size ⟨[], []⟩ w0 (Nat.le_refl _)
  unfold nval
  go_enter Tryz.func65, Tryz.ntmps65
  go_upto_region 1 with ((first | ((with_reducible refine at_load ?_); first | refine X1 hst ?_ | refine XW hst ?_) | ((with_reducible refine at_store ?_); (first | refine Y1 hst ?_ | refine YW hst ?_); clear hst; intro w hst) | ((first | ((with_reducible refine at_alloc ?_); refine ZP hst ?_) | ((with_reducible refine at_box ?_); refine ZP hst ?_) | ((with_reducible refine at_bslice ?_); refine ZS hst ?_)); clear hst; (first | ((fail_if_success have := b0); intro b0 w hb0 hst) | (intro b1 w hb1 hst)))))
  refine wp_plan (fun w => St w0.heap.size ⟨[], []⟩ w0 w [(some b0, [.int .i64 h.kind, .int .i64 h.typ, .string h.value, .string h.text, .string h.text, .string ByteArray.empty, .bool h.flow, .bool false, .bool false, .int .i64 1, .int .i64 h.col, .int .i64 h.off, .int .i64 0, .int .i64 0, .slice none 0 0, .slice none 0 0, .slice none 0 0, .slice none 0 0, .slice p n c], 31)]) [0, 1, 2, 3, 4, 5, 6, 7, 9, 12] (.q 0 (.q 1 (.q 2 (.q 3 (.q 4 (.q 5 (.q 6 (.q 7 (.e 8 true (.q 9 (.e 10 true (.e 11 true (.q 12 (.fin)))))))))))))) mixed (by kernel_rfl) (by kernel_rfl) (by kernel_rfl) (fun d v c a w h => by cases d <;> exact h) hst.drew ?_
  replace hst := hst.drew
  repeat ((refine AQ ?_); first | (refine Q1 ?_; go_frame) | (refine QW ?_; go_frame) | (refine QV ?_; go_frame))
  (refine AQ ?_)
  refine p_sub (vs := [.int .i64 1, .int .i64 h.col, .int .i64 h.off, .int .i64 0, .int .i64 0]) (.there (.there (.there (.there (.there (.there (.there (.there (.there (.here (.cons (.cons (.cons (.cons (.cons .nil))))))))))))))) rfl rfl rfl (by (repeat' (first | exact List.Mem.head _ | apply List.Mem.tail)); done) (by exact agg_of rfl rfl) ?_
  go_frame
  repeat ((refine AQ ?_); first | (refine Q1 ?_; go_frame) | (refine QW ?_; go_frame) | (refine QV ?_; go_frame))
  refine at_e (by simp only [List.getElem?_toArray, List.getElem?_cons_succ, List.getElem?_cons_zero]; rfl) rfl ?_
  refine e_call (by go_simp <;> first | rfl | exact ⟨rfl, rfl⟩) (position_any h.col h.off _ h1 h2) ?_
  rintro e w1 ⟨pb, rfl, hpb, hpos, hb⟩
  have hlo := hst.kp.size
  replace hst := hst.addNew hb hpb hpos
  clear hb hpos
  refine ⟨_, rfl, fun _ => hst.sub (.cons _ (List.Sublist.refl _)), ?_⟩
  go_frame
  repeat ((refine AQ ?_); first | (refine Q1 ?_; go_frame) | (refine QW ?_; go_frame) | (refine QV ?_; go_frame))
  refine at_e (by simp only [List.getElem?_toArray, List.getElem?_cons_succ, List.getElem?_cons_zero]; rfl) rfl ?_
  refine p_new hst (by go_simp; rfl) ?_
  clear hst
  intro tk w htk hst
  refine ⟨fun _ => hst.sub (.cons _ (.cons _ (List.Sublist.refl _))), ?_⟩
  go_frame
  refine at_e (by simp only [List.getElem?_toArray, List.getElem?_cons_succ, List.getElem?_cons_zero]; rfl) rfl ?_
  refine e_call (by go_simp <;> first | rfl | exact ⟨rfl, rfl⟩) (string_any tk pb h _ (hst.blk (by (repeat' (first | exact List.Mem.head _ | apply List.Mem.tail)); done))) ?_
  rintro e w2 ⟨b, ba, rfl, hlb, hlba, hbb, hba, hb⟩
  have hlo2 := hst.kp.size
  replace hst := hst.addNew2 hb hlb hlba hbb hba (by decide)
  clear hbb hb hba
  refine ⟨_, rfl, fun _ => hst.sub (.cons _ (.cons _ (.cons _ (.cons _ (List.Sublist.refl _))))), ?_⟩
  go_frame
  repeat ((refine AQ ?_); first | (refine Q1 ?_; go_frame) | (refine QW ?_; go_frame) | (refine QV ?_; go_frame))
  unfold wpP
  go_wp2_with ((first | ((with_reducible refine at_load ?_); first | refine X1 hst ?_ | refine XW hst ?_) | ((with_reducible refine at_store ?_); (first | refine Y1 hst ?_ | refine YW hst ?_); clear hst; intro w hst)))
  refine ret_tmp rfl rfl rfl ?_
  have h9 := (hst.blk (b := pb) (by (repeat' (first | exact List.Mem.head _ | apply List.Mem.tail)); done)).lt
  exact ⟨b, ba, tk, pb, rfl, by omega, h9, by omega, by omega, by omega, ⟨hst.blk (by (repeat' (first | exact List.Mem.head _ | apply List.Mem.tail)); done), by rw [Int.add_zero]; exact hst.blk (by (repeat' (first | exact List.Mem.head _ | apply List.Mem.tail)); done)⟩, hst.blk (by (repeat' (first | exact List.Mem.head _ | apply List.Mem.tail)); done), hst.blk (by (repeat' (first | exact List.Mem.head _ | apply List.Mem.tail)); done), hst.kp.below⟩
end Go.Proofs.YtpajcfkldnbpfaaGreatDoor
namespace Go.Proofs.YtpajcfkldnbpfaaGreatDoor
open Go.RowKit
def Tabs (w : World) : Prop := ∃ W0 : World, laidMetH Tryz.prog Rows.fnVisitsTreeRow.laid W0 ∧ Below W0.heap.size W0 w
theorem Tabs.below {w w' : World} (h : Tabs w) (hb : Below w.heap.size w w') : Tabs w' := by
  obtain ⟨W0, h1, h2⟩ := h
  exact ⟨W0, h1, h2.trans (hb.mono h2.size)⟩
theorem Sl.lt {H : Type} {S : Shp H} {A : Nat → Nat → Prop} {w w' : World} {p : Option Addr} {f : F H} (h : Sl S A w p f) (hb : Below w.heap.size w w') : Sl S A w' p f := h.hold (Hold.below hb fun _ _ h => h)
def SlT (A : Nat → Nat → Prop) (w : World) (p : Option Addr) (k : F NH) : Prop := Sl NS A w p k ∧ Tabs w
theorem SlT.lt {A : Nat → Nat → Prop} {w w' : World} {p : Option Addr} {k : F NH} (h : SlT A w p k) (hb : Below w.heap.size w w') : SlT A w' p k := ⟨h.1.lt hb, h.2.below hb⟩
def KidI (A : Nat → Nat → Prop) (x : NH) (kk : F NH) (wI w : World) (e : Ending) (w' : World) : Prop := ∃ q cq, e = .returned (nval x (.slice q kk.len cq)) ∧ kk.len ≤ cq ∧ SlT A wI q kk ∧ Below w.heap.size w w'
def KidR (A : Nat → Nat → Prop) (x : NH) (kk : F NH) (w : World) (e : Ending) (w' : World) : Prop := KidI A x kk w w e w'
set_option maxRecDepth 100000 in
set_option maxHeartbeats 1000000 in
theorem kid_anyI (A : Nat → Nat → Prop) (h : NH) (k : F NH) (p : Option Addr) (c i : Nat) (x : NH) (kk : F NH) (wI w0 : World) (hI : Below wI.heap.size wI w0) (hi : i ≤ 1) (hs : SlT A wI p k) (hg : k.get i = some (x, kk)) (hl : k.len ≤ 1000) : Calls Tryz.prog 68 #[nval h (.slice p k.len c), .int .i64 i] w0 (KidI A x kk wI w0) := by
  have hst := St.nil w0.heap.size ⟨[], []⟩ w0 (Nat.le_refl _)
  obtain ⟨b, o, q, cq, t, rfl, hcq, hsq, -, hlt, hcell⟩ := Sl.at2 hs.1 hg
  have hlen := F.lt_of_get hg
  have HC := Lib.hid (And.intro hcq (And.intro (show SlT A wI q kk from ⟨hsq, hs.2⟩) (And.intro hlt (And.intro hcell hI))))
  clear hs hg hcq hsq hlt hcell hI
  unfold nval
  have hi2 : (i : Int) < k.len := by omega
  go_enter Tryz.func68, Tryz.ntmps68
  go_wp2_with (first | ((with_reducible refine at_load ?_); refine wl_ldc (vs := [.int .i64 x.kind, .int .i64 x.typ, .string x.value, .string x.text, .string x.text, .string ByteArray.empty, .bool x.flow, .bool false, .bool false, .int .i64 1, .int .i64 x.col, .int .i64 x.off, .int .i64 0, .int .i64 0, .slice none 0 0, .slice none 0 0, .slice none 0 0, .slice none 0 0, .slice q kk.len cq]) rfl rfl rfl (fun j v hv => ?_) (by exact agg_of rfl rfl) ?_) | (first | ((with_reducible refine at_load ?_); first | refine X1 hst ?_ | refine XW hst ?_) | ((with_reducible refine at_store ?_); (first | refine Y1 hst ?_ | refine YW hst ?_); clear hst; intro w hst) | ((first | ((with_reducible refine at_alloc ?_); refine ZP hst ?_) | ((with_reducible refine at_box ?_); refine ZP hst ?_) | ((with_reducible refine at_bslice ?_); refine ZS hst ?_)); clear hst; (intro b0 w hb0 hst))))
  · have h1 := HC.out.2.2.2.1 j v hv
    have h2 := hst.kp.low b (Nat.lt_of_lt_of_le HC.out.2.2.1 HC.out.2.2.2.2.size)
    have h3 := HC.out.2.2.2.2.block b HC.out.2.2.1
    simp only [World.cell?] at h1 ⊢
    rw [h2, h3]
    exact h1
  · refine ret_cell hst rfl rfl (by (repeat' (first | exact List.Mem.head _ | apply List.Mem.tail)); done) (by exact agg_of rfl rfl) rfl ?_
    exact ⟨q, cq, rfl, HC.out.1, HC.out.2.1, hst.kp.below⟩
theorem kid_any (A : Nat → Nat → Prop) (h : NH) (k : F NH) (p : Option Addr) (c i : Nat) (x : NH) (kk : F NH) (w0 : World) (hi : i ≤ 1) (hs : SlT A w0 p k) (hg : k.get i = some (x, kk)) (hl : k.len ≤ 1000) : Calls Tryz.prog 68 #[nval h (.slice p k.len c), .int .i64 i] w0 (KidR A x kk w0) :=
  kid_anyI A h k p c i x kk w0 w0 (Below.refl _ _) hi hs hg hl
theorem AstN.below {w w' : World} {c : Int} (hb : Below w.heap.size w w') : ∀ {f : F NH} {lo hi : Nat} {bs : List Nat}, AstN w c lo hi f bs → AstN w' c lo hi f bs := by
  have hS : ∀ {t : Nat} {p : Option Addr} {vs : List Value}, SlV w t p vs → SlV w' t p vs := fun h => by
    rcases h with h | ⟨b, sp, h1, h2⟩
    · exact .inl h
    · exact .inr ⟨b, sp, h1, h2.below hb⟩
  intro f
  induction f with
  | nil => intro lo hi bs h; exact h
  | cons h k r ihk ihr =>
    rintro lo hi bs ⟨b, bs', ba, tk, pb, m1, mid, kb, e, h1, h2, ht, hba, hn, hk, hr⟩
    refine ⟨b, bs', ba, tk, pb, m1, mid, kb, e, h1, h2, ht.below hb, hba.below hb, ?_, ihk hk, ihr hr⟩
    rcases hn with ⟨g, h⟩ | ⟨g, v, h, h'⟩ | ⟨g, v, h, h'⟩ | ⟨g, f, h⟩ | ⟨g, f, h, h'⟩ | ⟨g, h', h⟩ | ⟨g, h⟩ | ⟨g, k0, h', h⟩ | ⟨g, p, c, h1, h2, h⟩ | ⟨g, v0, v1, h', h⟩ | ⟨g, p, c, pc, cc, h1, h2, h3, h4, h⟩ | ⟨g, v0, v1, h', h⟩ | ⟨g, v0, h', h⟩ | ⟨g, v0, h', h⟩
    · exact .inl ⟨g, h.below hb⟩
    · exact .inr (.inl ⟨g, v, h.below hb, h'⟩)
    · exact .inr (.inr (.inl ⟨g, v, h.below hb, h'⟩))
    · exact .inr (.inr (.inr (.inl ⟨g, f, h.below hb⟩)))
    · exact .inr (.inr (.inr (.inr (.inl ⟨g, f, h.below hb, h'⟩))))
    · exact .inr (.inr (.inr (.inr (.inr (.inl ⟨g, h', h.below hb⟩)))))
    · exact .inr (.inr (.inr (.inr (.inr (.inr (.inl ⟨g, h.below hb⟩))))))
    · exact .inr (.inr (.inr (.inr (.inr (.inr (.inr (.inl ⟨g, k0, h', h.below hb⟩)))))))
    · exact .inr (.inr (.inr (.inr (.inr (.inr (.inr (.inr (.inl ⟨g, p, c, h1, hS h2, h.below hb⟩))))))))
    · exact .inr (.inr (.inr (.inr (.inr (.inr (.inr (.inr (.inr (.inl ⟨g, v0, v1, h', h.below hb⟩)))))))))
    · exact .inr (.inr (.inr (.inr (.inr (.inr (.inr (.inr (.inr (.inr (.inl ⟨g, p, c, pc, cc, h1, h2, hS h3, hS h4, h.below hb⟩))))))))))
    · exact .inr (.inr (.inr (.inr (.inr (.inr (.inr (.inr (.inr (.inr (.inr (.inl ⟨g, v0, v1, h', h.below hb⟩)))))))))))
    · exact .inr (.inr (.inr (.inr (.inr (.inr (.inr (.inr (.inr (.inr (.inr (.inr (.inl ⟨g, v0, h', h.below hb⟩))))))))))))
    · exact .inr (.inr (.inr (.inr (.inr (.inr (.inr (.inr (.inr (.inr (.inr (.inr (.inr ⟨g, v0, h', h.below hb⟩))))))))))))
end Go.Proofs.YtpajcfkldnbpfaaGreatDoor
