/- Nodes read back: a forest that is alike, some columns further to the right; what stays of it in memory. Nodes some columns further to the right. node: a tree read back. -/
import Derived.Test.YtpajcfkldnbpfaaGreatDoorS03
import Derived.Test.YtpajcfkldnbpfaaGreatDoorS05
set_option linter.unusedSimpArgs false
set_option linter.unusedVariables false
namespace Go.Proofs.YtpajcfkldnbpfaaGreatDoor
open Go.RowKit
def SameH (d : Int) (h h' : NH) : Prop := ∃ va, h' = h.at va d ∧ (h.kind ≠ 5 → va = h.value)
def AlF (d : Int) : F NH → F NH → Prop
  | .nil, .nil => True
  | .cons h k r, .cons h' k' r' => SameH d h h' ∧ AlF d k k' ∧ AlF d r r'
  | _, _ => False
theorem AlF.len {d : Int} : ∀ {f f' : F NH}, AlF d f f' → f'.len = f.len := by
  intro f
  induction f with
  | nil => intro f' h; cases f' with
    | nil => rfl
    | cons _ _ _ => exact h.elim
  | cons h k r _ ihr => intro f' ha; cases f' with
    | nil => exact ha.elim
    | cons h' k' r' => simp only [F.len, ihr ha.2.2]
theorem AlF.size {d : Int} : ∀ {f f' : F NH}, AlF d f f' → f'.size = f.size := by
  intro f
  induction f with
  | nil => intro f' h; cases f' with
    | nil => rfl
    | cons _ _ _ => exact h.elim
  | cons h k r ihk ihr => intro f' ha; cases f' with
    | nil => exact ha.elim
    | cons h' k' r' => simp only [F.size, ihk ha.2.1, ihr ha.2.2]
theorem AlF.snoc {d : Int} {x x' : NH} {kx kx' : F NH} (hx : SameH d x x') (hk : AlF d kx kx') : ∀ {f f' : F NH}, AlF d f f' → AlF d (f.snoc x kx) (f'.snoc x' kx') := by
  intro f
  induction f with
  | nil => intro f' h; cases f' with
    | nil => exact ⟨hx, hk, trivial⟩
    | cons _ _ _ => exact h.elim
  | cons h k r ihk ihr => intro f' ha; cases f' with
    | nil => exact ha.elim
    | cons h' k' r' => exact ⟨ha.1, ha.2.1, ihr ha.2.2⟩
def shN (d : Int) (h : NH) : NH := { h with col := h.col + d }
theorem Alike.append : ∀ {a b a' b' : List NH}, Alike a a' → Alike b b' → Alike (a ++ b) (a' ++ b')
  | [], _, [], _, _, h => h
  | _ :: _, _, _ :: _, _, h, k => ⟨h.1, Alike.append h.2 k⟩
  | [], _, _ :: _, _, h, _ => h.elim
  | _ :: _, _, [], _, h, _ => h.elim
theorem AlF.flat {d : Int} : ∀ {f f' : F NH}, AlF d f f' → Alike (f.flat.map (shN d)) f'.flat := by
  intro f
  induction f with
  | nil => intro f' h; cases f' with
    | nil => trivial
    | cons _ _ _ => exact h.elim
  | cons h k r ihk ihr => intro f' ha; cases f' with
    | nil => exact ha.elim
    | cons h' k' r' =>
      obtain ⟨⟨va, e, hv⟩, hk, hr⟩ := ha
      subst e
      simp only [F.flat, List.map_cons, List.map_append]
      exact ⟨⟨va, rfl, hv⟩, Alike.append (ihk hk) (ihr hr)⟩
def KdL (lo : Nat) (no : List (Option Nat)) (b t : Nat) : Prop := lo ≤ b ∧ t = 31 ∧ some b ∉ no
theorem KdL.stay {B lo : Nat} {ts : List Nat} {wx w : World} {L L' : Rws} {xs : List Nat} (hxs : xs = L.filterMap (·.1)) (hst : St B ⟨ts, xs⟩ wx w L') (hts : 31 ∉ ts) : Hold (KdL lo (L.map (·.1))) (KdL lo (L'.map (·.1))) wx w := by
  subst hxs
  intro b cs t fr ha hb
  have h1 := hst.kp.typ b cs t fr hb (by rw [ha.2.1]; exact hts) (fun hm => ha.2.2 (mem_fm hm))
  refine ⟨h1, ha.1, ha.2.1, fun hm => ?_⟩
  obtain ⟨⟨x, l, t'⟩, hx, e⟩ := List.mem_map.1 hm
  simp only at e
  subst e
  have hlt := lt_of_heap hb
  rcases (hst.rows b l t' hx).2 with h5 | ⟨_, h5 | h5⟩
  · omega
  · have h2 := hst.heap hx
    rw [h1] at h2
    simp only [Option.some.injEq, Obj.cells.injEq] at h2
    rw [← h2.2.1, ha.2.1] at h5
    exact hts h5
  · exact ha.2.2 (mem_fm h5)
theorem KdL.new {B : Nat} {Ts : Ch} {w0 w1 w : World} {L : Rws} {lo : Nat} (h : St B Ts w0 w1 L) (hlo : lo ≤ w1.heap.size) : Hold (NewN w1.heap.size) (KdL lo (L.map (·.1))) w w := by
  intro b cs t fr ha hb
  refine ⟨hb, Nat.le_trans hlo ha.1, ha.2, fun hm => ?_⟩
  obtain ⟨⟨x, l, t'⟩, hx, e⟩ := List.mem_map.1 hm
  simp only at e
  subst e
  have h1 := ha.1
  have := lt_of_heap (h.heap hx)
  omega
theorem KdL.less {lo : Nat} {no no' : List (Option Nat)} {w : World} (h : ∀ x ∈ no', x ∈ no) : Hold (KdL lo no) (KdL lo no') w w := fun b cs t fr ha hb => ⟨hb, ha.1, ha.2.1, fun hm => ha.2.2 (h _ hm)⟩
theorem KdL.done {lo : Nat} {no : List (Option Nat)} {w : World} : Hold (KdL lo no) (NewN lo) w w := fun b cs t fr ha hb => ⟨hb, ha.1, ha.2.1⟩
theorem KdL.sl {B lo : Nat} {w0 w : World} {L : Rws} {oid : Option Nat} {n cap : Nat} {xs sp : List Value} {no : List (Option Nat)} {fo : F NH} (hst : St B ⟨[], []⟩ w0 w L) (hm : (oid, xs ++ sp, 31) ∈ L) (hgr : Gr 19 oid n cap xs sp) (hl : fo.len = n) (hlo : lo ≤ w0.heap.size) (h : Row NS (KdL lo no) w (xs ++ sp) fo) : Sl NS (NewN lo) w (slP oid) fo := by
  cases oid with
  | none => exact .inl (by have := hgr.nil rfl; have := hgr.le; omega)
  | some g =>
    refine .inr ⟨g, 0, _, _, _, rfl, hst.heap hm, ⟨?_, rfl⟩, Row.hold KdL.done (by simpa using h)⟩
    rcases (hst.rows g _ 31 hm).2 with h5 | ⟨_, h5 | h5⟩
    · exact Nat.le_trans hlo h5
    · cases h5
    · cases h5
def NodeR2 (d : Int) (h : NH) (k : F NH) (w0 : World) (e : Ending) (w' : World) : Prop := ∃ (h' : NH) (k' : F NH) (p : Option Addr) (c : Nat), e = .returned (nval h' (.slice p k'.len c)) ∧ SameH d h h' ∧ AlF d k k' ∧ k'.len ≤ c ∧ Sl NS (NewN w0.heap.size) w' p k' ∧ Below w0.heap.size w0 w'
theorem KeepT.refl (w : World) : KeepT w w := fun _ _ _ _ h _ => h
theorem KeepT.trans {a b c : World} (h : KeepT a b) (k : KeepT b c) : KeepT a c := fun i cs t fr hb ht => k i cs t fr (h i cs t fr hb ht) ht
theorem KeepT.below {w w' : World} (h : Below w.heap.size w w') : KeepT w w' := fun i cs t fr hb _ => (h.block i (lt_of_heap hb)).trans hb
theorem KeepT.of_watch {B : Nat} {Ts : Ch} {w0 wx w : World} {L L' : Rws} {bs : List Nat} (h0 : St B Ts w0 wx L) (ht : (L.all fun x => x.2.2 == 31) = true) (hbs : bs = L.filterMap (·.1)) (h : St B ⟨[], bs⟩ wx w L') : KeepT wx w := by
  intro i cs t fr hb hn
  refine h.kp.typ i cs t fr hb List.not_mem_nil fun hm => ?_
  subst hbs
  obtain ⟨⟨x, l, t'⟩, hx, e⟩ := List.mem_filterMap.1 hm
  simp only at e
  subst e
  have h1 := h0.heap hx
  rw [hb] at h1
  simp only [Option.some.injEq, Obj.cells.injEq] at h1
  have h2 := List.all_eq_true.1 ht _ hx
  simp only [beq_iff_eq] at h2
  apply hn
  rw [h1.2.1, h2]
  decide
theorem SlV.keepT {w w' : World} (hk : KeepT w w') {t : Nat} {p : Option Addr} {vs : List Value} (ht : t ∉ [29, 31, 36]) (h : SlV w t p vs) : SlV w' t p vs := by
  rcases h with h | ⟨b, sp, h1, h2⟩
  · exact .inl h
  · exact .inr ⟨b, sp, h1, h2.keepT hk ht⟩
structure NInv (d : Int) (k : F NH) (lo : Nat) (w1 : World) (no : List (Option Nat)) (m : Nat) (fo : F NH) (oid : Option Nat) (cp : Nat) (xs sp : List Value) (wx : World) : Prop where
  len : fo.len = m
  al : AlF d (k.take m) fo
  gr : Gr 19 oid m cp xs sp
  row : Row NS (KdL lo no) wx (xs ++ sp) fo
  keep : KeepT w1 wx
theorem NInv.stay {d : Int} {k : F NH} {lo B : Nat} {Ts : Ch} {w0 w1 wx w : World} {L L' : Rws} {m : Nat} {fo : F NH} {oid : Option Nat} {cp : Nat} {xs sp : List Value} (h : NInv d k lo w1 (L.map (·.1)) m fo oid cp xs sp wx) {bs : List Nat} (h0 : St B Ts w0 wx L) (ht : (L.all fun x => x.2.2 == 31) = true) (hbs : bs = L.filterMap (·.1)) (hst : St B ⟨[], bs⟩ wx w L') : NInv d k lo w1 (L'.map (·.1)) m fo oid cp xs sp w :=
  ⟨h.len, h.al, h.gr, h.row.hold (KdL.stay hbs hst List.not_mem_nil), h.keep.trans (KeepT.of_watch h0 ht hbs hst)⟩
theorem set_same {α : Type} {l : List α} {i : Nat} {v : α} (h : l[i]? = some v) : l.set i v = l := by
  apply List.ext_getElem?
  intro j
  rw [List.getElem?_set]
  split
  · rename_i e
    subst e
    rw [h]
    simp [(List.getElem?_eq_some_iff.1 h).1]
  · rfl
section
variable {P : Program} {ops : Array Oper} {Q : Exit → Act → World → Prop} {S : World → Prop} {o : Oper} {p : Plan} {a : Act} {w w0 : World} {B : Nat} {Ts : Ch} {L : Rws}
theorem p_same {k : Bool} (hst : St B Ts w0 w L) {T : Nat} {x y : Operand} {b off t : Nat} {v : Value} {l : List Value} (hop : o.op = .store T x y) (hx : a.eval x = .pointer (some ⟨b, off, none⟩)) (hy : a.eval y = v)
    (hm : (some b, l, t) ∈ L) (hv : l[off]? = some v) (hs : szOf P T 1 = true) (h1 : v.oneCell' = true) (h : ∀ w', St B Ts w0 w' L → (k = true → S w') ∧ wpP P ops Q S p (a.put o.dst undef) w') : WE P ops Q S o k p a w := by
  obtain ⟨j, hj⟩ := List.mem_iff_getElem?.1 hm
  obtain ⟨w', hr, h2⟩ := st_one hst hop hx hy hj hs (List.getElem?_eq_some_iff.1 hv).1 h1
  rw [set_same hv, set_same hj] at h2
  obtain ⟨h3, h4⟩ := h w' h2
  exact e_skip hr h3 h4
end
end Go.Proofs.YtpajcfkldnbpfaaGreatDoor
namespace Go.Proofs.YtpajcfkldnbpfaaGreatDoor
open Go.RowKit
theorem take_shN (l : List NH) (d : Int) {m : Nat} {x : NH} (hx : l[m]? = some x) : cellsN ((l.take (m + 1)).map (shN d)) = cellsN ((l.take m).map (shN d)) ++ nL (shN d x) (.slice none 0 0) := by
  rw [List.take_add_one, hx]
  simp only [Option.toList_some, List.map_append, List.map_cons, List.map_nil, cellsN_append, cellsN, List.append_nil]
theorem flat_cols : ∀ {k : F NH}, k.all NOK → ∀ x ∈ k.flat, 1 ≤ x.col ∧ x.col ≤ 200 := by
  intro k
  induction k with
  | nil => intro _ x hx; cases hx
  | cons h k r ihk ihr =>
    rintro ⟨h1, h2, h3⟩ x hx
    simp only [F.flat, List.mem_cons, List.mem_append] at hx
    rcases hx with rfl | hx | hx
    · exact ⟨h1.1, h1.2.1⟩
    · exact ihk h2 x hx
    · exact ihr h3 x hx
set_option maxRecDepth 100000 in
set_option maxHeartbeats 2000000 in
theorem trShifted_any (l : List NH) (d : Int) (d0 : 0 ≤ d) (d1 : d ≤ 99) (hc : ∀ x ∈ l, 1 ≤ x.col ∧ x.col ≤ 200) (gs cs : Nat) (ss : List Value) (w0 : World) (hs : Blk w0 gs 31 (cellsN l ++ ss)) (hn : l ≠ []) (hl : l.length ≤ 1000) : Calls Tryz.prog 12 #[.slice (some ⟨gs, 0, none⟩) l.length cs, .int .i64 d] w0 (NodesR (l.map (shN d)) w0) := by
  have HS := Lib.hid (And.intro hs (And.intro hc (And.intro hn (And.intro d0 d1))))
  clear hs hc hn d0 d1
  have hst := St.nil w0.heap.size ⟨[], []⟩ w0 (Nat.le_refl _)
  go_enter Tryz.func12, Tryz.ntmps12
  go_wp2_with ((first | ((with_reducible refine at_load ?_); first | refine X1 hst ?_ | refine XW hst ?_) | ((with_reducible refine at_store ?_); (first | refine Y1 hst ?_ | refine YW hst ?_); clear hst; intro w hst) | ((first | ((with_reducible refine at_alloc ?_); refine ZP hst ?_) | ((with_reducible refine at_box ?_); refine ZP hst ?_) | ((with_reducible refine at_bslice ?_); refine ZS hst ?_)); clear hst; (intro b0 w hb0 hst))))
  have HST := Lib.hid hst
  clear hst
  go_loopw [10, 5] (fun i o wx => ∃ (m : Nat) (oid : Option Nat) (cap : Nat) (sp : List Value), i = .int .i64 m ∧ m ≤ l.length ∧ o = .slice (slP oid) m cap ∧ Hid (Gr 19 oid m cap (cellsN ((l.take m).map (shN d))) sp) ∧ Hid (St w0.heap.size ⟨[], []⟩ w0 wx [(oid, cellsN ((l.take m).map (shN d)) ++ sp, 31)])) (fun i _ _ => l.length - (intOf i).toNat)
  case atStart => exact ⟨0, none, 0, [], rfl, Nat.zero_le _, rfl, Lib.hid (Gr.empty 19), Lib.hid (HST.out.addNone [] 31)⟩
  case round =>
    obtain ⟨m, oid, cap, sp, rfl, hmk, rfl, HG, HL⟩ := hrel
    by_cases hm : (m : Int) < l.length
    · obtain ⟨x, hx⟩ : ∃ x, l[m]? = some x := ⟨l[m]'(by omega), List.getElem?_eq_getElem _⟩
      have hcx := HS.out.2.1 x (List.mem_of_getElem? hx)
      have hcell : ∀ (j : Nat) (v : Value), ([.int .i64 x.kind, .int .i64 x.typ, .string x.value, .string x.text, .string x.text, .string ByteArray.empty, .bool x.flow, .bool false, .bool false, .int .i64 1, .int .i64 x.col, .int .i64 x.off, .int .i64 0, .int .i64 0, .slice none 0 0, .slice none 0 0, .slice none 0 0, .slice none 0 0, .slice none 0 0] : List Value)[j]? = some v → wr.cell? ⟨gs, m * 19 + j, none⟩ = some v := fun j v hv => by
        have h1 := cellsN_get hx hv
        exact (HS.out.1.below HL.out.kp.below).cell (by rw [List.getElem?_append_left (List.getElem?_eq_some_iff.1 h1).1]; exact h1)
      have e1 : wrap64 (x.col + d) = x.col + d := by have := HS.out.2.2.2; unfold wrap64; omega
      have HT := Lib.hid (And.intro (take_shN l d hx) (And.intro hcell e1))
      have hst := HL.out
      have hgr := HG.out
      clear hx hcx hcell e1
      go_upto_region 6 with (first | ((with_reducible refine at_load ?_); refine wl_ldc (vs := [.int .i64 x.kind, .int .i64 x.typ, .string x.value, .string x.text, .string x.text, .string ByteArray.empty, .bool x.flow, .bool false, .bool false, .int .i64 1, .int .i64 x.col, .int .i64 x.off, .int .i64 0, .int .i64 0, .slice none 0 0, .slice none 0 0, .slice none 0 0, .slice none 0 0, .slice none 0 0]) rfl rfl rfl HT.out.2.1 (by exact agg_of rfl rfl) ?_) | (first | ((with_reducible refine at_load ?_); first | refine X1 hst ?_ | refine XW hst ?_) | ((with_reducible refine at_store ?_); (first | refine Y1 hst ?_ | refine YW hst ?_); clear hst; intro w hst) | ((first | ((with_reducible refine at_alloc ?_); refine ZP hst ?_) | ((with_reducible refine at_box ?_); refine ZP hst ?_) | ((with_reducible refine at_bslice ?_); refine ZS hst ?_)); clear hst; (intro b0 w hb0 hst))))
      replace hst := hst.perm (List.Perm.swap _ _ _)
      go_wp2_with (first | (first | ((with_reducible refine at_bslice ?_); (refine ZS hst ?_; clear hst; (intro b0 w hb0 hst))) | ((with_reducible refine at_append ?_); (refine wl_appH hst rfl rfl rfl rfl (by first | exact el213 | exact el22 | exact el28 | exact el29 | exact el48 | exact el52 | exact el134 | exact el146 | exact el205) hgr (by decide) (by decide) rfl rfl (by omega) (by simp only [maxLen]; omega) ?_; clear hst hgr; intro oid cap sp w hst hgr hno))) | (first | ((with_reducible refine at_load ?_); first | refine X1 hst ?_ | refine XW hst ?_) | ((with_reducible refine at_store ?_); (first | refine Y1 hst ?_ | refine YW hst ?_); clear hst; intro w hst) | ((first | ((with_reducible refine at_alloc ?_); refine ZP hst ?_) | ((with_reducible refine at_box ?_); refine ZP hst ?_) | ((with_reducible refine at_bslice ?_); refine ZS hst ?_)); clear hst; (intro b0 w hb0 hst))))
      rw [HT.out.2.2] at hst hgr
      go_round
      case rel => exact ⟨m + 1, oid, cap, sp, by rw [show (m : Int) + 1 = ((m + 1 : Nat) : Int) by omega], by omega, rfl, Lib.hid (by rw [HT.out.1]; exact hgr), Lib.hid (by rw [HT.out.1]; exact hst.sub (.cons_cons _ (List.nil_sublist _)))⟩
      case measure => simp [intOf]; omega
    · have e : m = l.length := by omega
      subst e
      have hn0 : 0 < l.length := List.length_pos_iff.2 HS.out.2.2.1
      obtain ⟨g, rfl⟩ : ∃ g, oid = some g := by
        cases oid with
        | none => have h1 := HG.out.nil rfl; have h2 := HG.out.le; omega
        | some g => exact ⟨g, rfl⟩
      go_wp2_with fail
      refine ret_tmp rfl rfl rfl ?_
      have hG := HG.out
      have hL := HL.out
      rw [List.take_length] at hG hL
      exact ⟨g, cap, sp, by rw [List.length_map]; rfl, by rw [List.length_map]; exact hG, hL⟩
end Go.Proofs.YtpajcfkldnbpfaaGreatDoor
namespace Go.Proofs.YtpajcfkldnbpfaaGreatDoor
open Go.RowKit
set_option maxRecDepth 100000 in
set_option maxHeartbeats 4000000 in
theorem nodeB_all (hF : FloatsOK) (d : Int) : ∀ (s : Nat) (h : NH) (k : F NH) (b lo hi : Nat) (w0 : World), k.size < s → k.size ≤ 900 → AstN w0 d lo hi (.cons h k .nil) [b] → NOK h k → k.all NOK → Tabs w0 → Calls Tryz.prog 23 #[nodeV h b] w0 (NodeR2 d h k w0) := by
  intro s
  induction s with
  | zero => intro h k b lo hi w0 hs; exact absurd hs (Nat.not_lt_zero _)
  | succ s ih =>
    intro h k b lo hi w0 hs hsz ha hok hall hT
    have hkl := F.len_le_size k
    have HS := Lib.hid (And.intro ha (And.intro hok (And.intro hall (And.intro hT ih))))
    clear ha hok hall hT ih
    have hst := St.nil w0.heap.size ⟨[], []⟩ w0 (Nat.le_refl _)
    unfold nodeV
    go_enter Tryz.func23, Tryz.ntmps23
    go_wp2_with ((first | ((with_reducible refine at_load ?_); first | refine X1 hst ?_ | refine XW hst ?_) | ((with_reducible refine at_store ?_); (first | refine Y1 hst ?_ | refine YW hst ?_); clear hst; intro w hst) | ((first | ((with_reducible refine at_alloc ?_); refine ZP hst ?_) | ((with_reducible refine at_box ?_); refine ZP hst ?_) | ((with_reducible refine at_bslice ?_); refine ZS hst ?_)); clear hst; (first | ((fail_if_success have := b0); intro b0 w hb0 hst) | ((fail_if_success have := b1); intro b1 w hb1 hst) | ((fail_if_success have := b2); intro b2 w hb2 hst) | ((fail_if_success have := b3); intro b3 w hb3 hst) | ((fail_if_success have := b4); intro b4 w hb4 hst) | (intro b5 w hb5 hst)))))
    refine (alone_any hF d h k b lo hi _ (HS.out.1.below hst.kp.below) HS.out.2.1 (by omega) (HS.out.2.2.2.1.below hst.kp.below)).mono ?_
    rintro e w1 ⟨va, p, cap, lo2, hi2, kb, rfl, hva, hkc, hsv, hak, hb⟩
    replace hst := hst.below hb
    generalize hh : h.at va d = h'
    have hsh : SameH d h h' := ⟨va, hh.symm, hva⟩
    have HA := Lib.hid (And.intro hsh (And.intro hsv (And.intro hak hkc)))
    clear hva hb hh hsh hsv hak
    obtain ⟨bs0, hbs0, hwa⟩ := hst.watchEx
    have HW0 := Lib.hid (And.intro hbs0 hst)
    clear hst hbs0
    have hst := hwa
    clear hwa
    unfold nval
    go_wp2_with ((first | ((with_reducible refine at_load ?_); first | refine X1 hst ?_ | refine XW hst ?_) | ((with_reducible refine at_store ?_); (first | refine Y1 hst ?_ | refine YW hst ?_); clear hst; intro w hst) | ((first | ((with_reducible refine at_alloc ?_); refine ZP hst ?_) | ((with_reducible refine at_box ?_); refine ZP hst ?_) | ((with_reducible refine at_bslice ?_); refine ZS hst ?_)); clear hst; (first | ((fail_if_success have := b0); intro b0 w hb0 hst) | ((fail_if_success have := b1); intro b1 w hb1 hst) | ((fail_if_success have := b2); intro b2 w hb2 hst) | ((fail_if_success have := b3); intro b3 w hb3 hst) | ((fail_if_success have := b4); intro b4 w hb4 hst) | (intro b5 w hb5 hst)))))
    have hfull := HW0.out.2.unwatchBs HW0.out.1 hst
    have hkeep := KeepT.of_watch HW0.out.2 rfl HW0.out.1 hst
    have H0 := Lib.hid (And.intro hfull hkeep)
    clear hfull hkeep hst HW0
    go_loopw [20] (fun i wx => ∃ m : Nat, i = .int .i64 m ∧ ∃ (fo : F NH) (oid : Option Nat) (cp : Nat) (xs sp : List Value), m ≤ k.len ∧ Hid (NInv d k w0.heap.size w1 [oid, some b1, some b0] m fo oid cp xs sp wx) ∧ Hid (St w0.heap.size ⟨[], []⟩ w0 wx [(oid, xs ++ sp, 31), (some b1, [.int .i64 h'.kind, .int .i64 h'.typ, .string h'.value, .string h'.text, .string h'.text, .string ByteArray.empty, .bool h'.flow, .bool false, .bool false, .int .i64 1, .int .i64 h'.col, .int .i64 h'.off, .int .i64 0, .int .i64 0, .slice none 0 0, .slice none 0 0, .slice none 0 0, .slice none 0 0, .slice (slP oid) m cp], 31), (some b0, [.int .i64 0, .int .i64 0, .string ByteArray.empty, .string ByteArray.empty, .string ByteArray.empty, .string ByteArray.empty, .bool false, .bool false, .bool false, .int .i64 0, .int .i64 0, .int .i64 0, .int .i64 0, .int .i64 0, .slice none 0 0, .slice none 0 0, .slice none 0 0, .slice none 0 0, .slice none 0 0], 31)])) (fun i _ => k.len - (intOf i).toNat)
    case atStart => exact ⟨0, rfl, .nil, none, 0, [], [], Nat.zero_le _, Lib.hid ⟨rfl, by cases k <;> trivial, Gr.empty 19, trivial, H0.out.2⟩, Lib.hid (H0.out.1.addNone [] 31)⟩
    case round =>
      clear H0
      obtain ⟨m, rfl, fo, oid, cp, xs, sp, hmk, HI, HL⟩ := hrel
      by_cases hm : (m : Int) < k.len
      · obtain ⟨x, kx, hg⟩ := F.get_lt (f := k) (i := m) (by omega)
        obtain ⟨c0, l1, h1, e1, e2, hax⟩ := HA.out.2.2.1.get hg
        obtain ⟨gp, sp2, rfl, hbg⟩ := HA.out.2.1.some (m := m) (List.getElem?_eq_some_iff.1 e2).1
        have hcell := (hbg.keepT HI.out.keep (by decide)).cell (off := m) (by rw [List.getElem?_append_left (List.getElem?_eq_some_iff.1 e2).1]; exact e2)
        have hxall := F.all_get HS.out.2.2.1 hg
        have hzx := F.size_get hg
        have hst := HL.out
        have hcall := HS.out.2.2.2.2 x kx c0 l1 h1 wr.drew (by omega) (by omega) (AstN.keepT (w' := wr.drew) (fun i cs t fr h ht => HI.out.keep i cs t fr h ht) hax) hxall.1 hxall.2 (HS.out.2.2.2.1.below hst.drew.kp.below)
        unfold nodeV at hcell hcall
        have HC := Lib.hid (And.intro hcall hg)
        clear e1 e2 hax hbg hxall hcall hg
        go_upto_region 7 with fail
        clear hcell
        refine wp_plan (fun w => St w0.heap.size ⟨[], []⟩ w0 w [(some b1, [.int .i64 h'.kind, .int .i64 h'.typ, .string h'.value, .string h'.text, .string h'.text, .string ByteArray.empty, .bool h'.flow, .bool false, .bool false, .int .i64 1, .int .i64 h'.col, .int .i64 h'.off, .int .i64 0, .int .i64 0, .slice none 0 0, .slice none 0 0, .slice none 0 0, .slice none 0 0, .slice (slP oid) m cp], 31)]) [0, 1, 2] (.q 0 (.q 1 (.q 2 (.e 3 true (.e 4 true (.e 5 true (.e 6 false (.e 7 false (.fin))))))))) mixed (by kernel_rfl) (by kernel_rfl) (by kernel_rfl) (fun d v c a w h => by cases d <;> exact h) (hst.drew.sub (.cons _ (.cons_cons _ (List.nil_sublist _)))) ?_
        replace hst := hst.drew
        repeat ((refine AQ ?_); first | (refine Q1 ?_; go_frame) | (refine QW ?_; go_frame) | (refine QV ?_; go_frame))
        refine at_e (by simp only [List.getElem?_toArray, List.getElem?_cons_succ, List.getElem?_cons_zero]; rfl) rfl ?_
        refine e_call (by go_simp <;> first | rfl | exact ⟨rfl, rfl⟩) HC.out.1 ?_
        rintro e w2 ⟨h2, k2, p2, c2, rfl, hsh2, hal2, hcc2, hsl2, hb2⟩
        have hsl3 : Sl NS (KdL w0.heap.size [oid, some b1, some b0]) w2 p2 k2 := hsl2.hold (KdL.new hst hst.kp.size)
        have hrow := (HI.out.row.hold Hold.drew).hold (Hold.below hb2 fun _ _ h => h)
        have hkeep : KeepT w1 w2 := KeepT.trans (b := wr.drew) (fun i cs t fr h ht => HI.out.keep i cs t fr h ht) (KeepT.below hb2)
        replace hst := hst.below hb2
        obtain ⟨bs, hbs, hwa⟩ := hst.watchEx
        have HQ := Lib.hid (And.intro hbs (And.intro hst (And.intro hsl3 (And.intro hrow (And.intro hkeep (And.intro hsh2 (And.intro hal2 hcc2)))))))
        clear hst hbs hsl2 hsl3 hrow hkeep hsh2 hal2 hcc2 hb2
        have hst := hwa
        clear hwa
        refine ⟨_, rfl, fun _ => (HQ.out.2.1.unwatchBs HQ.out.1 hst).sub (.cons _ (.cons_cons _ (List.nil_sublist _))), ?_⟩
        unfold nval
        go_frame
        refine at_e (by simp only [List.getElem?_toArray, List.getElem?_cons_succ, List.getElem?_cons_zero]; rfl) rfl ?_
        refine p_newS hst (by go_simp; first | rfl | exact ⟨⟨rfl, rfl⟩, rfl⟩) ?_
        clear hst
        intro b4 w hb4 hst
        refine ⟨fun _ => (HQ.out.2.1.unwatchBs HQ.out.1 hst).sub (.cons _ (.cons _ (.cons_cons _ (List.nil_sublist _)))), ?_⟩
        go_frame
        refine at_e (by simp only [List.getElem?_toArray, List.getElem?_cons_succ, List.getElem?_cons_zero]; rfl) rfl ?_
        refine p_appH hst rfl rfl rfl (by first | exact el213 | exact el22 | exact el28 | exact el29 | exact el48 | exact el52 | exact el134 | exact el146 | exact el205) HI.out.gr (by decide) (by decide) rfl rfl (by omega) (by simp only [maxLen]; omega) ?_
        clear hst
        intro oid3 cap3 sp3 w hst hgr3 hno
        refine ⟨fun _ => (HQ.out.2.1.unwatchBs HQ.out.1 hst).sub (.cons _ (.cons_cons _ (List.nil_sublist _))), ?_⟩
        go_frame
        refine at_e (by simp only [List.getElem?_toArray, List.getElem?_cons_succ, List.getElem?_cons_zero]; rfl) rfl ?_
        refine e_val (by go_simp; first | rfl | exact ⟨rfl, rfl⟩) (fun h => by cases h) ?_
        go_frame
        refine at_e (by simp only [List.getElem?_toArray, List.getElem?_cons_succ, List.getElem?_cons_zero]; rfl) rfl ?_
        (refine E1 hst ?_; clear hst; intro w hst; refine ⟨?_, ?_⟩; rotate_left; go_frame)
        · unfold wpP
          go_wp2_with fail
          go_round
          case rel =>
            obtain ⟨hbs, hst2, hsl3, hrow, hkeep, hsh2, hal2, hcc2⟩ := HQ.out
            have hH : Hold (KdL w0.heap.size [oid, some b1, some b0]) (KdL w0.heap.size [oid3, some b1, some b0]) w2 w := KdL.stay hbs hst List.not_mem_nil
            have hrow2 : Row NS (KdL w0.heap.size [oid3, some b1, some b0]) w ((xs ++ nL h2 (.slice p2 k2.len c2)) ++ sp3) (fo.snoc h2 k2) := Row.snoc (h := h2) (hrow.hold hH) (by rw [HI.out.gr.len, HI.out.len]; rfl) sp3 hcc2 (hsl3.hold hH)
            refine ⟨m + 1, by rw [show (m : Int) + 1 = ((m + 1 : Nat) : Int) by omega], fo.snoc h2 k2, oid3, cap3, _, sp3, by omega, Lib.hid ⟨by rw [F.len_snoc, HI.out.len], by rw [F.take_succ HC.out.2]; exact AlF.snoc hsh2 hal2 HI.out.al, hgr3, hrow2, hkeep.trans (KeepT.of_watch hst2 rfl hbs hst)⟩, Lib.hid ?_⟩
            exact hst2.unwatchBs hbs hst
          case measure => simp [intOf]; omega
        · intro h; cases h
      · have e : m = k.len := by omega
        subst e
        by_cases h14 : h.kind = 14
        · obtain ⟨b', bs', ba, tk, pb, m1, mid, kb', e, -, -, -, -, hn, hk', -⟩ := HS.out.1
          cases e
          have hlen' := hk'.len
          obtain ⟨pv, cv, pc, cc, hB⟩ : ∃ (pv : Option Addr) (cv : Nat) (pc : Option Addr) (cc : Nat), Blk w0 b 149 [ptr ba, ptr tk, .pointer none, .bool h.flow, .slice pv k.len cv, .slice pc k.len cc, .slice none 0 0, .pointer none] ∧ SlV w0 93 pc (List.replicate k.len (.pointer none)) := by
            rcases hn with ⟨g', hn⟩ | ⟨g', v, hn, h'⟩ | ⟨g', v, hn, h'⟩ | ⟨g', f, hn⟩ | ⟨g', f, hn, h'⟩ | ⟨g', h', hn⟩ | ⟨g', hn⟩ | ⟨g', k0, h', hn⟩ | ⟨g', p, c, hc1, hc2, hn⟩ | ⟨g', v0, v1, h', hn⟩ | ⟨g', p, c, pc, cc, hc1, hc2, hc3, hc4, hn⟩ | ⟨g', v0, v1, h', hn⟩ | ⟨g', v0, h', hn⟩ | ⟨g', v0, h', hn⟩
            all_goals first | (exfalso; omega) | skip
            rw [hlen'] at hn hc4
            exact ⟨p, c, pc, cc, hn, hc4⟩
          have HB := Lib.hid hB
          clear hB hn hk' hlen'
          have ta145 := fun v xT w => ta_hit 145 (by decide) v xT w
          rw [h14]
          simp only [tyOf]
          have hst := HL.out
          go_wp2_with ((first | ((with_reducible refine at_load ?_); first | refine X1 hst ?_ | refine XW hst ?_) | ((with_reducible refine at_store ?_); (first | refine Y1 hst ?_ | refine YW hst ?_); clear hst; intro w hst)))
          have H2 := Lib.hid (And.intro hst HI.out)
          clear hst HL HI
          go_loopw [41] (fun i wx => ∃ q : Nat, i = .int .i64 q ∧ q ≤ k.len ∧ Hid (NInv d k w0.heap.size w1 [oid, some b1, some b0] k.len fo oid cp xs sp wx) ∧ Hid (St w0.heap.size ⟨[], []⟩ w0 wx [(oid, xs ++ sp, 31), (some b1, [.int .i64 h'.kind, .int .i64 h'.typ, .string h'.value, .string h'.text, .string h'.text, .string ByteArray.empty, .bool h'.flow, .bool false, .bool false, .int .i64 1, .int .i64 h'.col, .int .i64 h'.off, .int .i64 0, .int .i64 0, .slice none 0 0, .slice none 0 0, .slice none 0 0, .slice none 0 0, .slice (slP oid) k.len cp], 31), (some b0, [.int .i64 0, .int .i64 0, .string ByteArray.empty, .string ByteArray.empty, .string ByteArray.empty, .string ByteArray.empty, .bool false, .bool false, .bool false, .int .i64 0, .int .i64 0, .int .i64 0, .int .i64 0, .int .i64 0, .slice none 0 0, .slice none 0 0, .slice none 0 0, .slice none 0 0, .slice none 0 0], 31)])) (fun i _ => k.len - (intOf i).toNat)
          case atStart => exact ⟨0, rfl, Nat.zero_le _, Lib.hid H2.out.2, Lib.hid H2.out.1⟩
          case round =>
            obtain ⟨q, rfl, hqk, HI, HL⟩ := hrel
            by_cases hq : (q : Int) < k.len
            · obtain ⟨x, kx, hg⟩ := F.get_lt (f := fo) (i := q) (by rw [HI.out.len]; omega)
              obtain ⟨qx, cx, -, -, hcx⟩ := HI.out.row.at hg
              have hnil : (xs ++ sp)[q * 19 + 16]? = some (.slice none 0 0) := hcx 16 _ rfl
              obtain ⟨gp, sp2, hpc, hbg⟩ := HB.out.2.some (m := q) (by rw [List.length_replicate]; omega)
              subst hpc
              have hrep : (List.replicate k.len (Value.pointer none) ++ sp2)[q]? = some (.pointer none) := by rw [List.getElem?_append_left (by rw [List.length_replicate]; omega), List.getElem?_replicate]; simp; omega
              obtain ⟨go, hgo⟩ : ∃ g, oid = some g := by
                cases oid with
                | none => have h1 := HI.out.gr.nil rfl; have h2 := HI.out.gr.le; omega
                | some g => exact ⟨g, rfl⟩
              subst hgo
              obtain ⟨bs, hbs, hwa⟩ := HL.out.watchEx
              have HW := Lib.hid (And.intro hbs (And.intro HL.out (And.intro hnil (And.intro hbg hrep))))
              have hst : St w0.heap.size ⟨[], bs⟩ wr wr [(some go, xs ++ sp, 31), (some b1, [.int .i64 h'.kind, .int .i64 h'.typ, .string h'.value, .string h'.text, .string h'.text, .string ByteArray.empty, .bool h'.flow, .bool false, .bool false, .int .i64 1, .int .i64 h'.col, .int .i64 h'.off, .int .i64 0, .int .i64 0, .slice none 0 0, .slice none 0 0, .slice none 0 0, .slice none 0 0, .slice (some ⟨go, 0, none⟩) k.len cp], 31), (some b0, [.int .i64 0, .int .i64 0, .string ByteArray.empty, .string ByteArray.empty, .string ByteArray.empty, .string ByteArray.empty, .bool false, .bool false, .bool false, .int .i64 0, .int .i64 0, .int .i64 0, .int .i64 0, .int .i64 0, .slice none 0 0, .slice none 0 0, .slice none 0 0, .slice none 0 0, .slice none 0 0], 31)] := hwa
              have hk0 : ¬ ((0 : Int) = k.len) := by omega
              clear hwa hbs hg hcx hnil hbg hrep
              go_upto_region 14 with fail
              refine wp_plan (fun w => St w0.heap.size ⟨[], []⟩ w0 w []) [0, 1, 2, 3, 4, 5, 6, 7, 8, 9, 10] (.q 0 (.q 1 (.q 2 (.q 3 (.q 4 (.q 5 (.q 6 (.q 7 (.q 8 (.q 9 (.q 10 (.fin)))))))))))) mixed (by kernel_rfl) (by kernel_rfl) (by kernel_rfl) (fun d v c a w h => by cases d <;> exact h) (HW.out.2.1.drew.sub (List.nil_sublist _)) ?_
              replace hst := hst.drew
              repeat ((refine AQ ?_); first | (refine p_ldc1 (q := ⟨b, 5, none⟩) (fun w hS => (HB.out.1.below hS.kp.below).cell (off := 5) rfl) rfl rfl rfl (one_of (by decide +kernel)) ?_; go_frame) | (refine p_ldc1 (q := ⟨b, 4, none⟩) (fun w hS => (HB.out.1.below hS.kp.below).cell (off := 4) rfl) rfl rfl rfl (one_of (by decide +kernel)) ?_; go_frame) | (refine QV ?_; go_frame))
              unfold wpP
              go_upto_region 15 with fail
              refine wp_plan (fun w => St w0.heap.size ⟨[], []⟩ w0 w [(some b1, [.int .i64 h'.kind, .int .i64 h'.typ, .string h'.value, .string h'.text, .string h'.text, .string ByteArray.empty, .bool h'.flow, .bool false, .bool false, .int .i64 1, .int .i64 h'.col, .int .i64 h'.off, .int .i64 0, .int .i64 0, .slice none 0 0, .slice none 0 0, .slice none 0 0, .slice none 0 0, .slice (some ⟨go, 0, none⟩) k.len cp], 31)]) [0, 1, 2, 3, 4, 5, 6, 7, 8, 9, 11, 12] (.q 0 (.q 1 (.q 2 (.q 3 (.q 4 (.q 5 (.q 6 (.q 7 (.q 8 (.q 9 (.e 10 true (.q 11 (.q 12 (.e 13 true (.fin))))))))))))))) mixed (by kernel_rfl) (by kernel_rfl) (by kernel_rfl) (fun d v c a w h => by cases d <;> exact h) ((HW.out.2.1.unwatchBs HW.out.1 hst).drew.sub (.cons _ (.cons_cons _ (List.nil_sublist _)))) ?_
              replace hst := hst.drew
              repeat ((refine AQ ?_); first | (refine Q1 ?_; go_frame) | (refine p_ldc1 (q := ⟨b, 5, none⟩) (fun w hS => (HB.out.1.below hS.kp.below).cell (off := 5) rfl) rfl rfl rfl (one_of (by decide +kernel)) ?_; go_frame) | (refine p_ldc1 (q := ⟨gp, q, none⟩) (fun w hS => (HW.out.2.2.2.1.below hS.kp.below).cell (off := q) HW.out.2.2.2.2) rfl rfl rfl (one_of (by decide +kernel)) ?_; go_frame) | (refine QV ?_; go_frame))
              refine at_e (by simp only [List.getElem?_toArray, List.getElem?_cons_succ, List.getElem?_cons_zero]; rfl) rfl ?_
              refine e_call (by go_simp <;> first | rfl | exact ⟨rfl, rfl⟩) (told_nil _) ?_
              rintro e w4 ⟨rfl, rfl⟩
              refine ⟨_, rfl, fun _ => (HW.out.2.1.unwatchBs HW.out.1 hst).sub (.cons _ (.cons_cons _ (List.nil_sublist _))), ?_⟩
              go_frame
              repeat ((refine AQ ?_); (refine QV ?_; go_frame))
              refine at_e (by simp only [List.getElem?_toArray, List.getElem?_cons_succ, List.getElem?_cons_zero]; rfl) rfl ?_
              refine p_same hst (off := q * 19 + 16) (v := .slice none 0 0) rfl (by exact rfl) (by exact rfl) (by (repeat' (first | exact List.Mem.head _ | apply List.Mem.tail)); done) HW.out.2.2.1 (sz1_of (by decide +kernel)) rfl ?_
              clear hst
              intro w hst
              refine ⟨fun _ => (HW.out.2.1.unwatchBs HW.out.1 hst).sub (.cons _ (.cons_cons _ (List.nil_sublist _))), ?_⟩
              go_frame
              unfold wpP
              go_upto_region 16 with fail
              refine wp_plan (fun w => St w0.heap.size ⟨[], []⟩ w0 w []) [0, 1, 2, 3, 4, 5, 6, 7, 8, 9, 10] (.q 0 (.q 1 (.q 2 (.q 3 (.q 4 (.q 5 (.q 6 (.q 7 (.q 8 (.q 9 (.q 10 (.fin)))))))))))) mixed (by kernel_rfl) (by kernel_rfl) (by kernel_rfl) (fun d v c a w h => by cases d <;> exact h) ((HW.out.2.1.unwatchBs HW.out.1 hst).drew.sub (List.nil_sublist _)) ?_
              replace hst := hst.drew
              repeat ((refine AQ ?_); first | (refine p_ldc1 (q := ⟨b, 6, none⟩) (fun w hS => (HB.out.1.below hS.kp.below).cell (off := 6) rfl) rfl rfl rfl (one_of (by decide +kernel)) ?_; go_frame) | (refine p_ldc1 (q := ⟨b, 4, none⟩) (fun w hS => (HB.out.1.below hS.kp.below).cell (off := 4) rfl) rfl rfl rfl (one_of (by decide +kernel)) ?_; go_frame) | (refine QV ?_; go_frame))
              unfold wpP
              go_wp2_with fail
              go_round
              case rel => exact ⟨q + 1, by rw [show (q : Int) + 1 = ((q + 1 : Nat) : Int) by omega], by omega, Lib.hid (HI.out.stay HW.out.2.1 rfl HW.out.1 hst), Lib.hid (HW.out.2.1.unwatchBs HW.out.1 hst)⟩
              case measure => simp [intOf]; omega
            · have e : q = k.len := by omega
              subst e
              (obtain ⟨bs, hbs, hwa⟩ := HL.out.watchEx; have HW := Lib.hid (And.intro hbs HL.out); have hst := hwa; clear hwa hbs; go_wp2_with ((first | ((with_reducible refine at_load ?_); first | refine X1 hst ?_ | refine XW hst ?_) | ((with_reducible refine at_store ?_); (first | refine Y1 hst ?_ | refine YW hst ?_); clear hst; intro w hst))); refine ret_cell hst rfl rfl (by (repeat' (first | exact List.Mem.head _ | apply List.Mem.tail)); done) (by exact agg_of rfl rfl) rfl ?_; have hI := HI.out.stay HW.out.2 rfl HW.out.1 hst; have hfull := HW.out.2.unwatchBs HW.out.1 hst; have hal := hI.al; rw [F.take_len] at hal; rw [← hI.len]; exact ⟨h', fo, slP oid, cp, rfl, HA.out.1, hal, (by rw [hI.len]; exact hI.gr.le), KdL.sl hfull (by (repeat' (first | exact List.Mem.head _ | apply List.Mem.tail)); done) hI.gr hI.len (Nat.le_refl _) hI.row, hfull.kp.below⟩)
        · have hne : tyOf h.kind ≠ 145 := by
            rcases NOK.kinds HS.out.2.1 with g | g | g | g | g | g | g | g | g | g | g | g | g | g
            all_goals first | exact absurd g h14 | (rw [g]; decide)
          have ta145 := fun v xT w => ta_miss (t := tyOf h.kind) 145 (by decide) hne v xT w
          (obtain ⟨bs, hbs, hwa⟩ := HL.out.watchEx; have HW := Lib.hid (And.intro hbs HL.out); have hst := hwa; clear hwa hbs; go_wp2_with ((first | ((with_reducible refine at_load ?_); first | refine X1 hst ?_ | refine XW hst ?_) | ((with_reducible refine at_store ?_); (first | refine Y1 hst ?_ | refine YW hst ?_); clear hst; intro w hst))); refine ret_cell hst rfl rfl (by (repeat' (first | exact List.Mem.head _ | apply List.Mem.tail)); done) (by exact agg_of rfl rfl) rfl ?_; have hI := HI.out.stay HW.out.2 rfl HW.out.1 hst; have hfull := HW.out.2.unwatchBs HW.out.1 hst; have hal := hI.al; rw [F.take_len] at hal; rw [← hI.len]; exact ⟨h', fo, slP oid, cp, rfl, HA.out.1, hal, (by rw [hI.len]; exact hI.gr.le), KdL.sl hfull (by (repeat' (first | exact List.Mem.head _ | apply List.Mem.tail)); done) hI.gr hI.len (Nat.le_refl _) hI.row, hfull.kp.below⟩)
end Go.Proofs.YtpajcfkldnbpfaaGreatDoor
