/- The fitter makes trees that are in order, of all trees. What Fit makes of one document. Nodes as data: their shape in memory, and what is so of those that the maker makes. The nodes of plain scalars. -/
import Derived.Test.YtpajcfkldnbpfaaGreatDoorV06
import Derived.Test.YtpajcfkldnbpfaaGreatDoorV08
set_option linter.unusedSimpArgs false
set_option linter.unusedVariables false
namespace Go.Proofs.YtpajcfkldnbpfaaGreatDoor
theorem tree_all : ∀ (n : Nat) (h : TH) (k : F TH), k.size = n → TreeC h k := by
  intro n
  induction n using Nat.strongRecOn with
  | _ n ih =>
    intro h k hn
    exact tree_step h k (coll_step k fun h' k' hlt => ih _ (by omega) h' k' rfl)
theorem tree_any (h : TH) (k : F TH) : TreeC h k := tree_all _ h k rfl
end Go.Proofs.YtpajcfkldnbpfaaGreatDoor
namespace Go.Proofs.YtpajcfkldnbpfaaGreatDoor
open Go.RowKit
theorem St.rebase2 {B : Nat} {Ts Ts' : Ch} {w0 w : World} {L L' : Rws} (h : St B Ts w0 w L) (hs : L'.Sublist L) (ht : (L'.all fun x => Ts'.ts.contains x.2.2) = true) : St B Ts' w w L' := by
  have h2 := h.sub hs
  refine ⟨Kp.refl _ _ _, h.size, fun b l t hm => ⟨h2.heap hm, .inr ?_⟩, h2.ne⟩
  have h3 := List.all_eq_true.1 ht _ hm
  refine ⟨?_, .inl (by simpa using h3)⟩
  have := h.base
  rcases (h2.rows b l t hm).2 with h4 | h4 <;> omega
def FitR (w0 : World) (e : Ending) (w : World) : Prop := ∃ (g cap : Nat) (h : TH) (k : F TH) (p : Option Addr) (c : Nat), e = .returned (.slice (some ⟨g, 0, none⟩) 1 cap) ∧ (∀ (j : Nat) (v : Value), ([.int .i64 h.kind, .string h.v, .string h.a, .string h.t, .int .i64 h.st, .slice p k.len c] : List Value)[j]? = some v → w.cell? ⟨g, 0 + j, none⟩ = some v) ∧
  Sl TS (New w0.heap.size) w p k ∧ k.len ≤ c ∧ TreeOK h k ∧ k.size + 1 ≤ 30 ∧ Below w0.heap.size w0 w
def docL (h : TH) (k : F TH) (p : Option Addr) (c : Nat) (e f : Bool) : List Value := [.int .i64 h.kind, .string h.v, .string h.a, .string h.t, .int .i64 h.st, .slice p k.len c, .bool e, .bool f, .bool false, .int .i64 0, .int .i64 0, .slice none 0 0, .slice none 0 0]
set_option maxRecDepth 100000 in
set_option maxHeartbeats 2000000 in
theorem fit_any (h : TH) (k : F TH) (p : Option Addr) (c bD cD : Nat) (w0 : World) (hc : ∀ (j : Nat) (v : Value), (docL h k p c false false)[j]? = some v → w0.cell? ⟨bD, 0 + j, none⟩ = some v) (hb : bD < w0.heap.size) (hi : TIn h) (hk : FIn k) (hkc : k.len ≤ c) (hs : Sl TS (fun b _ => b < w0.heap.size) w0 p k) :
    Calls Tryz.prog 13 #[.slice (some ⟨bD, 0, none⟩) 1 cD, .int .i64 63] w0 (FitR w0) := by
  have HA := Lib.hid (And.intro hc (And.intro hb (And.intro hi (And.intro hk (And.intro hkc hs)))))
  clear hc hb hi hk hkc hs
  have hst : St w0.heap.size [65, 9, 47] w0 w0 [] := .nil _ _ _ (Nat.le_refl _)
  go_enter Tryz.func13, Tryz.ntmps13
  go_wp2_with ((first | ((with_reducible refine at_load ?_); first | refine X1 hst ?_ | refine XW hst ?_) | ((with_reducible refine at_store ?_); (first | refine Y1 hst ?_ | refine YW hst ?_); clear hst; intro w hst) | ((first | ((with_reducible refine at_alloc ?_); refine ZP hst ?_) | ((with_reducible refine at_box ?_); refine ZP hst ?_) | ((with_reducible refine at_bslice ?_); refine ZS hst ?_)); clear hst; (first | ((fail_if_success have := b0); intro b0 w hb0 hst) | ((fail_if_success have := b1); intro b1 w hb1 hst) | (intro b2 w hb2 hst)))))
  go_loopw [6, 5] (fun i out wx => (i = .int .i64 0 ∧ out = .slice none 0 0 ∧ St w0.heap.size [65, 9, 47] w0 wx []) ∨ (i = .int .i64 1 ∧ Hid (FitR w0 (.returned out) wx))) (fun i _ _ => 2 - (intOf i).toNat)
  case atStart => exact .inl ⟨rfl, rfl, hst⟩
  case round =>
    clear hst
    rcases hrel with ⟨rfl, rfl, hst⟩ | ⟨rfl, HR⟩
    · go_upto_region 6 with ((first | ((with_reducible refine at_load ?_); first | refine X1 hst ?_ | refine XW hst ?_) | ((with_reducible refine at_store ?_); (first | refine Y1 hst ?_ | refine YW hst ?_); clear hst; intro w hst) | ((first | ((with_reducible refine at_alloc ?_); refine ZP hst ?_) | ((with_reducible refine at_box ?_); refine ZP hst ?_) | ((with_reducible refine at_bslice ?_); refine ZS hst ?_)); clear hst; (first | ((fail_if_success have := b0); intro b0 w hb0 hst) | ((fail_if_success have := b1); intro b1 w hb1 hst) | (intro b2 w hb2 hst)))))
      go_cut [8] (fun y wx => ∃ (b1 : Nat) (h' : TH) (k' : F TH) (p' : Option Addr) (c' : Nat), y = .pointer (some ⟨b1, 0, none⟩) ∧ Hid (Sl TS (New w0.heap.size) wx p' k' ∧ k'.len ≤ c' ∧ TreeOK h' k' ∧ k'.size + 1 ≤ 30) ∧ Hid (St w0.heap.size [65, 9, 47] w0 wx [(some b1, [.int .i64 h'.kind, .string h'.v, .string h'.a, .string h'.t, .int .i64 h'.st, .slice p' k'.len c', .bool false, .bool false, .bool false, .int .i64 0, .int .i64 0, .slice none 0 0, .slice none 0 0], 47)]))
      case first =>
        refine wp_plan (fun w => St w0.heap.size [65, 9, 47] w0 w []) [0, 1, 2, 3, 4, 5, 6, 7, 8, 9, 10, 12] (.q 0 (.q 1 (.q 2 (.q 3 (.q 4 (.q 5 (.q 6 (.q 7 (.q 8 (.q 9 (.q 10 (.e2 11 true (.q 12 (.e 13 true (.e 14 false (.fin)))) 13 true (.e 11 true (.q 12 (.e 14 false (.fin)))))))))))))))) mixed (by kernel_rfl) (by kernel_rfl) (by kernel_rfl) (fun d v c a w h => by cases d <;> exact h) (hst.drew.sub (List.nil_sublist _)) ?_
        replace hst := (hst.drew.addNone [] 9).perm (List.Perm.swap _ _ _)
        repeat ((refine AQ ?_); first | (refine Q1 ?_; go_frame) | (refine QW ?_; go_frame) | (refine QV ?_; go_frame))
        have inp : ∀ (w : World), St w0.heap.size [65, 9, 47] w0 w [] → ∀ (j : Nat) (v : Value), (docL h k p c false false)[j]? = some v → w.cell? ⟨bD, 0 + j, none⟩ = some v := fun w hS j v hv => by
          have h1 := HA.out.1 j v hv
          have h2 := hS.kp.low bD HA.out.2.1
          simp only [World.cell?] at h1 ⊢
          rw [h2]
          exact h1
        have INP := Lib.hid inp
        clear inp
        (refine AQ ?_)
        refine p_ldc1 (q := ⟨bD, 7, none⟩) (v := .bool false) (fun w hS => INP.out w hS 7 _ rfl) rfl rfl rfl (one_of (by decide +kernel)) ?_
        go_frame
        repeat ((refine AQ ?_); first | (refine Q1 ?_; go_frame) | (refine QW ?_; go_frame) | (refine QV ?_; go_frame))
        (refine AQ ?_)
        refine p_ldc (b := bD) (off := 0) (vs := [.int .i64 h.kind, .string h.v, .string h.a, .string h.t, .int .i64 h.st, .slice p k.len c]) (fun w hS j v hv => INP.out w hS j v ?_) rfl rfl rfl (by exact agg_of rfl rfl) ?_
        · exact List.getElem?_append_left (l₂ := [.bool false, .bool false, .bool false, .int .i64 0, .int .i64 0, .slice none 0 0, .slice none 0 0]) (List.getElem?_eq_some_iff.1 hv).1 ▸ hv
        go_frame
        repeat ((refine AQ ?_); first | (refine Q1 ?_; go_frame) | (refine QW ?_; go_frame) | (refine QV ?_; go_frame))
        have hfs : ∀ (w : World) (L : Rws), St w0.heap.size [65, 9, 47] w0 w ((some b0, [.int .i64 63, .int .i64 30, .slice none 0 0], 65) :: (none, [], 9) :: L) → FS 30 w0.heap.size w w b0 30 none 0 0 [] [] := fun w L h => ⟨h.rebase2 (.cons_cons _ (.cons_cons _ (List.nil_sublist _))) rfl, Gr.empty 1, fun v hv => (by cases hv), by decide, by decide⟩
        have HFS := Lib.hid hfs
        clear hfs
        refine at_e2 (by simp only [List.getElem?_toArray, List.getElem?_cons_succ, List.getElem?_cons_zero]; rfl) rfl (by simp only [List.getElem?_toArray, List.getElem?_cons_succ, List.getElem?_cons_zero]; rfl) rfl ?_ ?_
        · refine e_call (by go_simp; first | rfl | exact ⟨rfl, rfl⟩) (tree_any h k 30 w0.heap.size b0 30 none 0 0 [] [] 1 false p c _ (HFS.out _ _ hst) (by decide) (by decide) (by decide) (by decide) HA.out.2.2.1 HA.out.2.2.2.1 HA.out.2.2.2.2.1 (HA.out.2.2.2.2.2.hold (Hold.kp hst.kp fun b t h => ⟨.inl h, h⟩))) ?_
          rintro e w1 ⟨h', k', p', c', left', oidA, nA, capA, xsA, spA, rfl, hsl, hcc, hok, h0, hsz, hF', -⟩
          have hsl2 := hsl.hold (A' := New w0.heap.size) fun b cs t fr ha hb => ⟨hb, by have := hst.kp.size; have := ha.1; simp only [World.drew] at *; omega, ha.2⟩
          replace hst := St.after (L1 := []) hst hF'.st rfl rfl (fun _ h => by simp at h ⊢; omega)
          have hinv : ∀ w L, St w0.heap.size [65, 9, 47] w1 w L → St w0.heap.size [65, 9, 47] w0 w L := fun w L h => hst.unwatch (bs := []) h (fun b hb => by cases hb)
          have hst1 := hst.rebase2 (Ts' := [65, 9, 47]) (List.Sublist.refl _) rfl
          have HQ := Lib.hid (And.intro hsl2 (And.intro hcc (And.intro hok (And.intro h0 (And.intro hsz hinv)))))
          clear hsl hsl2 hcc hok h0 hsz hF' hst hinv
          have hst := hst1
          clear hst1
          refine ⟨_, rfl, fun _ => (HQ.out.2.2.2.2.2 _ _ hst).sub (List.nil_sublist _), ?_⟩
          unfold tval
          go_frame
          repeat ((refine AQ ?_); first | (refine Q1 ?_; go_frame) | (refine QW ?_; go_frame) | (refine QV ?_; go_frame))
          refine at_e (by simp only [List.getElem?_toArray, List.getElem?_cons_succ, List.getElem?_cons_zero]; rfl) rfl ?_
          refine p_new hst (by go_simp; rfl) ?_
          clear hst
          intro b1 w hb1 hst
          refine ⟨fun _ => (HQ.out.2.2.2.2.2 _ _ hst).sub (List.nil_sublist _), ?_⟩
          go_frame
          refine at_e (by simp only [List.getElem?_toArray, List.getElem?_cons_succ, List.getElem?_cons_zero]; rfl) rfl ?_
          (refine EW hst ?_; clear hst; intro w hst; refine ⟨?_, ?_⟩; rotate_left; go_frame)
          · unfold wpP
            go_wp2_with fail
            go_meet
            case rel => exact ⟨b1, h', k', p', c', rfl, Lib.hid ⟨HQ.out.1.hold (Hold.kp hst.kp fun b t h => ⟨.inr ⟨by rw [h.2]; exact (by decide : 24 ∉ [65, 9, 47]), List.not_mem_nil⟩, h⟩), HQ.out.2.1, HQ.out.2.2.1, by have := HQ.out.2.2.2.1; have := HQ.out.2.2.2.2.1; omega⟩, Lib.hid ((HQ.out.2.2.2.2.2 _ _ hst).sub (.cons_cons _ (List.nil_sublist _)))⟩
          · intro h; cases h
        · refine p_new hst (by go_simp; rfl) ?_
          clear hst
          intro b1 w hb1 hst
          refine ⟨fun _ => hst.sub (List.nil_sublist _), ?_⟩
          go_frame
          refine at_e (by simp only [List.getElem?_toArray, List.getElem?_cons_succ, List.getElem?_cons_zero]; rfl) rfl ?_
          refine e_call (by go_simp; first | rfl | exact ⟨rfl, rfl⟩) (tree_any h k 30 w0.heap.size b0 30 none 0 0 [] [] 1 false p c _ (HFS.out _ _ (hst.perm (List.perm_append_comm (l₁ := [_]) (l₂ := [_, _])))) (by decide) (by decide) (by decide) (by decide) HA.out.2.2.1 HA.out.2.2.2.1 HA.out.2.2.2.2.1 (HA.out.2.2.2.2.2.hold (Hold.kp hst.kp fun b t h => ⟨.inl h, h⟩))) ?_
          rintro e w1 ⟨h', k', p', c', left', oidA, nA, capA, xsA, spA, rfl, hsl, hcc, hok, h0, hsz, hF', -⟩
          have hsl2 := hsl.hold (A' := New w0.heap.size) fun b cs t fr ha hb => ⟨hb, by have := hst.kp.size; have := ha.1; omega, ha.2⟩
          replace hst := St.after (L1 := [_]) (L2 := [_, _]) hst hF'.st rfl rfl (fun _ h => by simp at h ⊢; omega)
          simp only [List.cons_append, List.nil_append] at hst
          have hinv : ∀ w L, St w0.heap.size [65, 9, 47] w1 w L → St w0.heap.size [65, 9, 47] w0 w L := fun w L h => hst.unwatch (bs := []) h (fun b hb => by cases hb)
          have hst1 := hst.rebase2 (Ts' := [65, 9, 47]) (List.Sublist.refl _) rfl
          have HQ := Lib.hid (And.intro hsl2 (And.intro hcc (And.intro hok (And.intro h0 (And.intro hsz hinv)))))
          clear hsl hsl2 hcc hok h0 hsz hF' hst hinv
          have hst := hst1
          clear hst1
          refine ⟨_, rfl, fun _ => (HQ.out.2.2.2.2.2 _ _ hst).sub (List.nil_sublist _), ?_⟩
          unfold tval
          go_frame
          repeat ((refine AQ ?_); first | (refine Q1 ?_; go_frame) | (refine QW ?_; go_frame) | (refine QV ?_; go_frame))
          refine at_e (by simp only [List.getElem?_toArray, List.getElem?_cons_succ, List.getElem?_cons_zero]; rfl) rfl ?_
          (refine EW hst ?_; clear hst; intro w hst; refine ⟨?_, ?_⟩; rotate_left; go_frame)
          · unfold wpP
            go_wp2_with fail
            go_meet
            case rel => exact ⟨b1, h', k', p', c', rfl, Lib.hid ⟨HQ.out.1.hold (Hold.kp hst.kp fun b t h => ⟨.inr ⟨by rw [h.2]; exact (by decide : 24 ∉ [65, 9, 47]), List.not_mem_nil⟩, h⟩), HQ.out.2.1, HQ.out.2.2.1, by have := HQ.out.2.2.2.1; have := HQ.out.2.2.2.2.1; omega⟩, Lib.hid ((HQ.out.2.2.2.2.2 _ _ hst).sub (.cons_cons _ (List.nil_sublist _)))⟩
          · intro h; cases h
      case rest =>
        clear hst
        obtain ⟨b1, h', k', p', c', rfl, HQ, HS⟩ := hcut
        have hst := HS.out
        clear HS
        go_upto_if 37 with ((with_reducible refine at_load ?_); refine wl_lds hst (off := 0) (vs := [.int .i64 h'.kind, .string h'.v, .string h'.a, .string h'.t, .int .i64 h'.st, .slice p' k'.len c']) rfl rfl rfl (by (repeat' (first | exact List.Mem.head _ | apply List.Mem.tail)); done) (.here (.cons (.cons (.cons (.cons (.cons (.cons .nil))))))) (by exact agg_of rfl rfl) ?_)
        refine (void_any _ _ _ _ _ _ ⟨_, _, _, rfl⟩ _).mono ?_
        rintro e w1 ⟨b, rfl, hb⟩
        have hsl := HQ.out.1.hold (A' := New w0.heap.size) (Hold.below hb fun b t h => h)
        replace hst := hst.below hb
        have hinv : ∀ w L, St w0.heap.size [65, 9, 47] w1 w L → St w0.heap.size [65, 9, 47] w0 w L := fun w L h => hst.unwatch (bs := []) h (fun b hb => by cases hb)
        have hst1 := hst.rebase2 (Ts' := [65, 9, 47]) (List.Sublist.refl _) rfl
        have HQ2 := Lib.hid (And.intro hsl hinv)
        clear hb hsl hinv hst
        have hst := hst1
        clear hst1
        go_upto_if 37 with fail
        go_cut [8] (fun y wx => y = .pointer (some ⟨b1, 0, none⟩) ∧ ∃ st3 : Int, Hid (st3 = h'.st ∨ st3 = 2) ∧ St w0.heap.size [65, 9, 47] w1 wx [(some b1, [.int .i64 h'.kind, .string h'.v, .string h'.a, .string h'.t, .int .i64 st3, .slice p' k'.len c', .bool false, .bool false, .bool false, .int .i64 0, .int .i64 0, .slice none 0 0, .slice none 0 0], 47)])
        case first =>
          cases b
          · go_wp2_with ((first | ((with_reducible refine at_load ?_); first | refine X1 hst ?_ | refine XW hst ?_) | ((with_reducible refine at_store ?_); (first | refine Y1 hst ?_ | refine YW hst ?_); clear hst; intro w hst)))
            go_meet
            case rel => exact ⟨rfl, _, Lib.hid (.inl rfl), hst⟩
          · go_wp2_with ((first | ((with_reducible refine at_load ?_); first | refine X1 hst ?_ | refine XW hst ?_) | ((with_reducible refine at_store ?_); (first | refine Y1 hst ?_ | refine YW hst ?_); clear hst; intro w hst)))
            go_meet
            case rel => exact ⟨rfl, _, Lib.hid (.inr rfl), hst⟩
        case rest =>
        clear hst
        obtain ⟨rfl, st3, H3, hst⟩ := hcut
        have ce : wc.cell? ⟨bD, 6, none⟩ = some (.bool false) := by
          have h1 := HA.out.1 6 _ rfl
          have h2 := (HQ2.out.2 _ _ hst).kp.low bD HA.out.2.1
          simp only [World.cell?] at h1 ⊢
          rw [h2]
          exact h1
        have hgr := Gr.empty 13
        replace hst := (hst.addNone [] 47)
        go_wp2_with (first | (first | ((with_reducible refine at_bslice ?_); (refine ZS hst ?_; clear hst; (first | ((fail_if_success have := b0); intro b0 w hb0 hst) | ((fail_if_success have := b1); intro b1 w hb1 hst) | (intro b2 w hb2 hst)))) | ((with_reducible refine at_append ?_); (refine wl_appH hst rfl rfl rfl rfl (by first | exact el213 | exact el22 | exact el28 | exact el29 | exact el48 | exact el52 | exact el134 | exact el146 | exact el205) hgr (by decide) (by decide) rfl rfl (by omega) (by simp only [maxLen]; omega) ?_; clear hst hgr; intro oid cap sp w hst hgr hno))) | (first | ((with_reducible refine at_load ?_); first | refine X1 hst ?_ | refine XW hst ?_) | ((with_reducible refine at_store ?_); (first | refine Y1 hst ?_ | refine YW hst ?_); clear hst; intro w hst)))
        go_round
        case rel =>
          have h1 := HQ2.out.2 _ _ hst
          refine .inr ⟨rfl, Lib.hid ?_⟩
          obtain ⟨g, rfl⟩ : ∃ g, oid = some g := by
            cases oid with
            | none => exact absurd rfl hno
            | some g => exact ⟨g, rfl⟩
          refine ⟨g, cap, ⟨h'.kind, h'.v, h'.a, h'.t, st3⟩, k', p', c', rfl, fun j v hv => ?_, HQ2.out.1.hold (Hold.kp hst.kp fun b t h => ⟨.inr ⟨by rw [h.2]; exact (by decide : 24 ∉ [65, 9, 47]), List.not_mem_nil⟩, h⟩), HQ.out.2.1, ⟨HQ.out.2.2.1.1.styled H3.out, HQ.out.2.2.1.2⟩, HQ.out.2.2.2, h1.kp.below⟩
          have h2 := hst.cell (b := g) (off := 0 + j) (v := v) (by (repeat' (first | exact List.Mem.head _ | apply List.Mem.tail)); done) ?_
          · exact h2
          · rw [Nat.zero_add]
            exact List.getElem?_append_left (l₂ := [.bool false, .bool false, .bool false, .int .i64 0, .int .i64 0, .slice none 0 0, .slice none 0 0] ++ sp) (List.getElem?_eq_some_iff.1 hv).1 ▸ hv
        case measure => simp [intOf]
    · go_wp2_with ((first | ((with_reducible refine at_load ?_); first | refine X1 hst ?_ | refine XW hst ?_) | ((with_reducible refine at_store ?_); (first | refine Y1 hst ?_ | refine YW hst ?_); clear hst; intro w hst) | ((first | ((with_reducible refine at_alloc ?_); refine ZP hst ?_) | ((with_reducible refine at_box ?_); refine ZP hst ?_) | ((with_reducible refine at_bslice ?_); refine ZS hst ?_)); clear hst; (first | ((fail_if_success have := b0); intro b0 w hb0 hst) | ((fail_if_success have := b1); intro b1 w hb1 hst) | (intro b2 w hb2 hst)))))
      exact ret_tmp rfl rfl rfl HR.out
end Go.Proofs.YtpajcfkldnbpfaaGreatDoor
namespace Go.Proofs.YtpajcfkldnbpfaaGreatDoor
open Go.RowKit
structure NH where
  kind : Int
  typ : Int
  value : ByteArray
  text : ByteArray
  flow : Bool
  col : Int
  off : Int
def nL (h : NH) (ks : Value) : List Value := [.int .i64 h.kind, .int .i64 h.typ, .string h.value, .string h.text, .string h.text, .string ByteArray.empty, .bool h.flow, .bool false, .bool false, .int .i64 1, .int .i64 h.col, .int .i64 h.off, .int .i64 0, .int .i64 0, .slice none 0 0, .slice none 0 0, .slice none 0 0, .slice none 0 0, ks]
def NS : Shp NH := ⟨nL, 19, 31, fun _ _ => rfl, by decide⟩
def nval (h : NH) (ks : Value) : Value := .agg #[.int .i64 h.kind, .int .i64 h.typ, .string h.value, .string h.text, .string h.text, .string ByteArray.empty, .bool h.flow, .bool false, .bool false, .int .i64 1, .int .i64 h.col, .int .i64 h.off, .int .i64 0, .int .i64 0, .slice none 0 0, .slice none 0 0, .slice none 0 0, .slice none 0 0, ks]
def NewN (lo b t : Nat) : Prop := lo ≤ b ∧ t = 31
def minus (t : ByteArray) : ByteArray := ⟨(45 :: t.data.toList).toArray⟩
def IntN (text value : ByteArray) : Prop := ∃ t, IntT t ∧ ((text = t ∧ value = t) ∨ (text = minus t ∧ ((t.data.toList = [48] ∧ value = t) ∨ (t.data.toList ≠ [48] ∧ value = minus t))))
def FloatN (text : ByteArray) : Prop := ∃ t, FloatT t ∧ (text = t ∨ text = minus t)
def truesL : List (List UInt8) := [[116, 114, 117, 101], [84, 114, 117, 101], [84, 82, 85, 69]]
def falsesL : List (List UInt8) := [[102, 97, 108, 115, 101], [70, 97, 108, 115, 101], [70, 65, 76, 83, 69]]
def BoolN (text value : ByteArray) : Prop := (text.data.toList ∈ truesL ∧ value = ⟨#[116, 114, 117, 101]⟩) ∨ (text.data.toList ∈ falsesL ∧ value = ⟨#[102, 97, 108, 115, 101]⟩)
def infPL : List (List UInt8) := [[46, 105, 110, 102], [46, 73, 110, 102], [46, 73, 78, 70]]
def infNL : List (List UInt8) := [[45, 46, 105, 110, 102], [45, 46, 73, 110, 102], [45, 46, 73, 78, 70]]
def InfN (text value : ByteArray) : Prop := (text.data.toList ∈ infPL ∧ value = ⟨#[43, 73, 110, 102]⟩) ∨ (text.data.toList ∈ infNL ∧ value = ⟨#[45, 73, 110, 102]⟩)
def LeafN (h : NH) : Prop := h.kind = 8 ∨ (h.kind = 2 ∧ h.value = ByteArray.empty) ∨ (h.kind = 3 ∧ BoolN h.text h.value) ∨ (h.kind = 4 ∧ IntN h.text h.value) ∨ (h.kind = 5 ∧ FloatN h.text) ∨ (h.kind = 6 ∧ InfN h.text h.value) ∨ (h.kind = 7 ∧ h.value = ⟨#[78, 97, 78]⟩)
def allTop (p : NH → Prop) : F NH → Prop
  | .nil => True
  | .cons h _ r => p h ∧ allTop p r
def ShapeN (h : NH) (k : F NH) : Prop :=
  (k = .nil ∧ LeafN h ∧ h.flow = false) ∨
  (h.kind = 10 ∧ h.flow = false ∧ ∃ a, k = .cons a .nil .nil ∧ a.kind = 8 ∧ h.value = a.value) ∨
  (h.kind = 11 ∧ h.value = ByteArray.empty ∧ allTop (fun x => x.kind = 13) k) ∨
  (h.kind = 13 ∧ h.value = ByteArray.empty ∧ ∃ a b kb, k = .cons a .nil (.cons b kb .nil) ∧ 2 ≤ a.kind ∧ a.kind ≤ 8) ∨
  (h.kind = 14 ∧ h.value = ByteArray.empty) ∨
  (h.kind = 16 ∧ h.flow = false ∧ ∃ a b kb, k = .cons a .nil (.cons b kb .nil) ∧ a.kind = 8 ∧ h.value = a.text) ∨
  (h.kind = 17 ∧ h.flow = false ∧ ∃ a, k = .cons a .nil .nil ∧ a.kind = 8 ∧ h.value = a.text) ∨
  (h.kind = 19 ∧ h.flow = false ∧ h.value = h.text ∧ ∃ b kb, k = .cons b kb .nil)
def NOK (h : NH) (k : F NH) : Prop := 1 ≤ h.col ∧ h.col ≤ 200 ∧ h.off = h.col ∧ ShapeN h k
def NoPlus (h : TH) (_ : F TH) : Prop := h.kind = 1 → h.st = 1 → h.v.data.toList.head? ≠ some 43
def PlaceR (B mb : Nat) (col : Int) (w : World) (e : Ending) (w' : World) : Prop := ∃ c : Int, 1 ≤ c ∧ c ≤ 200 ∧ e = .returned (.agg #[.int .i64 1, .int .i64 c, .int .i64 c, .int .i64 0, .int .i64 0]) ∧ St B [70] w w' [(some mb, [.int .i64 1, .int .i64 (col + 1)], 70)]
set_option maxRecDepth 100000 in
set_option maxHeartbeats 400000 in
theorem place_any (B : Nat) (w0 : World) (mb : Nat) (col : Int) (hst : St B [70] w0 w0 [(some mb, [.int .i64 1, .int .i64 col], 70)]) (hc1 : 1 ≤ col) (hc2 : col ≤ 1000) :
    Calls Tryz.prog 50 #[.pointer (some ⟨mb, 0, none⟩)] w0 (PlaceR B mb col w0) := by
  have h1 : 0 ≤ (col - 1) % 200 ∧ (col - 1) % 200 < 200 := by omega
  go_enter Tryz.func50, Tryz.ntmps50
  go_wp2_with ((first | ((with_reducible refine at_load ?_); first | refine X1 hst ?_ | refine XW hst ?_) | ((with_reducible refine at_store ?_); (first | refine Y1 hst ?_ | refine YW hst ?_); clear hst; intro w hst) | ((first | ((with_reducible refine at_alloc ?_); refine ZP hst ?_) | ((with_reducible refine at_box ?_); refine ZP hst ?_) | ((with_reducible refine at_bslice ?_); refine ZS hst ?_)); clear hst; (intro b0 w hb0 hst))))
  refine ret_cell hst rfl rfl (by (repeat' (first | exact List.Mem.head _ | apply List.Mem.tail)); done) (by exact agg_of rfl rfl) rfl ⟨1 + (col - 1) % 200, by omega, by omega, rfl, ?_⟩
  exact hst.sub (by simp)
def wrV (kind : Int) (s val : ByteArray) : Prop := ((kind = 8 ∨ kind = 19) ∧ val = s) ∨ (kind ≠ 8 ∧ kind ≠ 19 ∧ val = ByteArray.empty)
set_option maxHeartbeats 400000 in
theorem wrNode_any (w : World) (kind token c : Int) (s val : ByteArray) (hv : wrV kind s val) :
    Calls Tryz.prog 49 #[.int .i64 kind, .int .i64 token, .string s, .agg #[.int .i64 1, .int .i64 c, .int .i64 c, .int .i64 0, .int .i64 0]] w fun e w' =>
      e = .returned (nval ⟨kind, token, val, s, false, c, c⟩ (.slice none 0 0)) ∧ Below w.heap.size w w' := by
  have hst := St.nil w.heap.size ⟨[], []⟩ w (Nat.le_refl _)
  rcases hv with ⟨h | h, rfl⟩ | ⟨hk, hk2, rfl⟩
  · subst h
    go_enter Tryz.func49, Tryz.ntmps49
    go_wp2_with ((first | ((with_reducible refine at_load ?_); first | refine X1 hst ?_ | refine XW hst ?_) | ((with_reducible refine at_store ?_); (first | refine Y1 hst ?_ | refine YW hst ?_); clear hst; intro w hst) | ((first | ((with_reducible refine at_alloc ?_); refine ZP hst ?_) | ((with_reducible refine at_box ?_); refine ZP hst ?_) | ((with_reducible refine at_bslice ?_); refine ZS hst ?_)); clear hst; (intro b0 w hb0 hst))))
    refine ret_cell hst rfl rfl (by (repeat' (first | exact List.Mem.head _ | apply List.Mem.tail)); done) (by exact agg_of rfl rfl) rfl ⟨rfl, ?_⟩
    exact hst.kp.below
  · subst h
    go_enter Tryz.func49, Tryz.ntmps49
    go_wp2_with ((first | ((with_reducible refine at_load ?_); first | refine X1 hst ?_ | refine XW hst ?_) | ((with_reducible refine at_store ?_); (first | refine Y1 hst ?_ | refine YW hst ?_); clear hst; intro w hst) | ((first | ((with_reducible refine at_alloc ?_); refine ZP hst ?_) | ((with_reducible refine at_box ?_); refine ZP hst ?_) | ((with_reducible refine at_bslice ?_); refine ZS hst ?_)); clear hst; (intro b0 w hb0 hst))))
    refine ret_cell hst rfl rfl (by (repeat' (first | exact List.Mem.head _ | apply List.Mem.tail)); done) (by exact agg_of rfl rfl) rfl ⟨rfl, ?_⟩
    exact hst.kp.below
  · have h8 : ((kind : Int) == 8) = false := by simpa using hk
    have h19 : ((kind : Int) == 19) = false := by simpa using hk2
    go_enter Tryz.func49, Tryz.ntmps49
    go_wp2_with ((first | ((with_reducible refine at_load ?_); first | refine X1 hst ?_ | refine XW hst ?_) | ((with_reducible refine at_store ?_); (first | refine Y1 hst ?_ | refine YW hst ?_); clear hst; intro w hst) | ((first | ((with_reducible refine at_alloc ?_); refine ZP hst ?_) | ((with_reducible refine at_box ?_); refine ZP hst ?_) | ((with_reducible refine at_bslice ?_); refine ZS hst ?_)); clear hst; (intro b0 w hb0 hst))))
    refine ret_cell hst rfl rfl (by (repeat' (first | exact List.Mem.head _ | apply List.Mem.tail)); done) (by exact agg_of rfl rfl) rfl ⟨rfl, ?_⟩
    exact hst.kp.below
def SignedP (s t : ByteArray) : Prop := s.data.toList.head? ≠ some 43 → (s.data.toList = [45, 48] ∧ t = ⟨#[48]⟩) ∨ (s.data.toList ≠ [45, 48] ∧ t = s)
theorem head_at {s : ByteArray} (h : 0 < s.size) : s.data.toList.head? = some s[0] := by
  have := drop_at h
  rw [List.drop_zero] at this
  rw [this]
  rfl
set_option maxHeartbeats 400000 in
theorem signed_any (s : ByteArray) (w : World) (hs : 0 < s.size) (hm : s.size ≤ maxLen) : Calls Tryz.prog 119 #[.string s] w fun e w' => ∃ t, SignedP s t ∧ e = .returned (.string t) ∧ w = w' := by
  have hh := head_at hs
  have HH := Lib.hid hh
  clear hh
  by_cases h1 : (s[0].toNat : Int) = 43
  · go_enter Tryz.func119, Tryz.ntmps119
    go_wp2
    refine ret_tmp rfl rfl rfl ⟨_, fun h => absurd ?_ h, rfl, rfl⟩
    rw [HH.out, u8_of_int (n := 43) (by decide) h1]
    rfl
  · by_cases h2 : s.data.toList = [45, 48]
    · obtain rfl := of_list h2
      go_enter Tryz.func119, Tryz.ntmps119
      go_wp2
      exact ret_tmp rfl rfl rfl ⟨⟨#[48]⟩, fun _ => .inl ⟨rfl, rfl⟩, rfl, rfl⟩
    · have := ne_list h2
      go_enter Tryz.func119, Tryz.ntmps119
      go_wp2
      exact ret_tmp rfl rfl rfl ⟨s, fun _ => .inr ⟨h2, rfl⟩, rfl, rfl⟩
end Go.Proofs.YtpajcfkldnbpfaaGreatDoor
namespace Go.Proofs.YtpajcfkldnbpfaaGreatDoor
open Go.RowKit
def PlainR (v : ByteArray) (c : Int) (w : World) (e : Ending) (w' : World) : Prop := ∃ h' : NH, e = .returned (nval h' (.slice none 0 0)) ∧ h'.col = c ∧ h'.off = c ∧ h'.flow = false ∧ 2 ≤ h'.kind ∧ h'.kind ≤ 8 ∧ (v.data.toList.head? ≠ some 43 → LeafN h') ∧ Below w.heap.size w w'
theorem plus_of {s t : ByteArray} (h : Sgn s t) (hp : s.data.toList.head? ≠ some 43) : s = t ∨ s = minus t := by
  rcases h with h | ⟨c, hc | hc, h⟩
  · exact .inl h.symm
  · subst hc
    exact .inr (of_list h)
  · subst hc
    rw [h] at hp
    exact absurd rfl hp
theorem size_plain {v : ByteArray} {t : ByteArray} (hs : Sgn v t) (h : 0 < t.size) : 0 < v.size := by
  have := hs.size
  omega
theorem size_dg {t : ByteArray} (h : IntT t) : 0 < t.size := by
  have := dgsB_size h.1
  omega
theorem PlainR.mk' {kind typ c : Int} {value v : ByteArray} {w w' : World} (h2 : 2 ≤ kind) (h8 : kind ≤ 8) (hl : v.data.toList.head? ≠ some 43 → LeafN ⟨kind, typ, value, v, false, c, c⟩) (hb : Below w.heap.size w w') :
    PlainR v c w (.returned (.agg #[.int .i64 kind, .int .i64 typ, .string value, .string v, .string v, .string ByteArray.empty, .bool false, .bool false, .bool false, .int .i64 1, .int .i64 c, .int .i64 c, .int .i64 0, .int .i64 0, .slice none 0 0, .slice none 0 0, .slice none 0 0, .slice none 0 0, .slice none 0 0])) w' :=
  ⟨⟨kind, typ, value, v, false, c, c⟩, rfl, rfl, rfl, rfl, h2, h8, hl, hb⟩
theorem minus_list (t : ByteArray) : (minus t).data.toList = 45 :: t.data.toList := by simp [minus]
theorem dig_45 {t : ByteArray} (h : IntT t) : t.data.toList ≠ [45, 48] := by
  intro e
  obtain rfl := of_list e
  exact absurd h.1 (by decide)
theorem int_of {s t x : ByteArray} (h : Sgn s t) (ht : IntT t) (hp : s.data.toList.head? ≠ some 43) (hx : SignedP s x) : IntN s x := by
  refine ⟨t, ht, ?_⟩
  rcases plus_of h hp with rfl | rfl
  · rcases hx hp with ⟨h1, rfl⟩ | ⟨h1, rfl⟩
    · exact absurd h1 (dig_45 ht)
    · exact .inl ⟨rfl, rfl⟩
  · refine .inr ⟨rfl, ?_⟩
    rw [SignedP, minus_list] at hx
    rw [minus_list] at hp
    rcases hx hp with ⟨h1, rfl⟩ | ⟨h1, rfl⟩
    · simp only [List.cons.injEq, true_and] at h1
      exact .inl ⟨h1, (of_list h1).symm⟩
    · exact .inr ⟨fun h2 => h1 (by rw [h2]), rfl⟩
theorem LeafN.bool1 {typ c : Int} {text : ByteArray} (h : text.data.toList ∈ truesL) : LeafN ⟨3, typ, ⟨#[116, 114, 117, 101]⟩, text, false, c, c⟩ := .inr (.inr (.inl ⟨rfl, .inl ⟨h, rfl⟩⟩))
theorem LeafN.bool2 {typ c : Int} {text : ByteArray} (h : text.data.toList ∈ falsesL) : LeafN ⟨3, typ, ⟨#[102, 97, 108, 115, 101]⟩, text, false, c, c⟩ := .inr (.inr (.inl ⟨rfl, .inr ⟨h, rfl⟩⟩))
theorem LeafN.inf1 {typ c : Int} {text : ByteArray} (h : text.data.toList ∈ infPL) : LeafN ⟨6, typ, ⟨#[43, 73, 110, 102]⟩, text, false, c, c⟩ := .inr (.inr (.inr (.inr (.inr (.inl ⟨rfl, .inl ⟨h, rfl⟩⟩)))))
theorem LeafN.inf2 {typ c : Int} {text : ByteArray} (h : text.data.toList ∈ infNL) : LeafN ⟨6, typ, ⟨#[45, 73, 110, 102]⟩, text, false, c, c⟩ := .inr (.inr (.inr (.inr (.inr (.inl ⟨rfl, .inr ⟨h, rfl⟩⟩)))))
set_option maxRecDepth 100000 in
set_option maxHeartbeats 1000000 in
theorem plain_any (m : Option Addr) (v : ByteArray) (c : Int) (w : World) (hv : v.size ≤ maxLen) : Calls Tryz.prog 87 #[.pointer m, .string v, nval ⟨8, 31, v, v, false, c, c⟩ (.slice none 0 0)] w (PlainR v c w) := by
  have hst := St.nil w.heap.size ⟨[], []⟩ w (Nat.le_refl _)
  unfold nval
  go_enter Tryz.func87, Tryz.ntmps87
  go_wp2_with ((first | ((with_reducible refine at_load ?_); first | refine X1 hst ?_ | refine XW hst ?_) | ((with_reducible refine at_store ?_); (first | refine Y1 hst ?_ | refine YW hst ?_); clear hst; intro w hst) | ((first | ((with_reducible refine at_alloc ?_); refine ZP hst ?_) | ((with_reducible refine at_box ?_); refine ZP hst ?_) | ((with_reducible refine at_bslice ?_); refine ZS hst ?_)); clear hst; (intro b0 w hb0 hst))))
  refine (Known_any v _ hv).mono ?_
  rintro e w1 ⟨k, hk, rfl, rfl⟩
  rcases hk with ⟨rfl, hk⟩ | ⟨rfl, hk⟩ | ⟨rfl, hk⟩ | ⟨rfl, hk⟩ | hk
  · by_cases h1 : v.data.toList = []
    · obtain rfl := of_list h1
      go_wp2_with ((first | ((with_reducible refine at_load ?_); first | refine X1 hst ?_ | refine XW hst ?_) | ((with_reducible refine at_store ?_); (first | refine Y1 hst ?_ | refine YW hst ?_); clear hst; intro w hst)))
      refine ret_cell hst rfl rfl (by (repeat' (first | exact List.Mem.head _ | apply List.Mem.tail)); done) (by exact agg_of rfl rfl) rfl ?_
      exact PlainR.mk' (by decide) (by decide) (fun _ => .inr (.inl ⟨rfl, rfl⟩)) hst.kp.below
    · have := isEmpty_list h1
      go_wp2_with ((first | ((with_reducible refine at_load ?_); first | refine X1 hst ?_ | refine XW hst ?_) | ((with_reducible refine at_store ?_); (first | refine Y1 hst ?_ | refine YW hst ?_); clear hst; intro w hst)))
      refine ret_cell hst rfl rfl (by (repeat' (first | exact List.Mem.head _ | apply List.Mem.tail)); done) (by exact agg_of rfl rfl) rfl ?_
      exact PlainR.mk' (by decide) (by decide) (fun _ => .inr (.inl ⟨rfl, rfl⟩)) hst.kp.below
  · simp only [boolsL, List.mem_cons, List.not_mem_nil, or_false] at hk
    rcases hk with hk | hk | hk | hk | hk | hk
    all_goals
      obtain rfl := of_list hk
      clear hk
      go_wp2_with ((first | ((with_reducible refine at_load ?_); first | refine X1 hst ?_ | refine XW hst ?_) | ((with_reducible refine at_store ?_); (first | refine Y1 hst ?_ | refine YW hst ?_); clear hst; intro w hst)))
      refine ret_cell hst rfl rfl (by (repeat' (first | exact List.Mem.head _ | apply List.Mem.tail)); done) (by exact agg_of rfl rfl) rfl ?_
      first
        | exact PlainR.mk' (by decide) (by decide) (fun _ => LeafN.bool1 (by decide)) hst.kp.below
        | exact PlainR.mk' (by decide) (by decide) (fun _ => LeafN.bool2 (by decide)) hst.kp.below
  · simp only [infsL, List.mem_cons, List.not_mem_nil, or_false] at hk
    rcases hk with hk | hk | hk | hk | hk | hk | hk | hk | hk
    all_goals
      obtain rfl := of_list hk
      clear hk
      go_wp2_with ((first | ((with_reducible refine at_load ?_); first | refine X1 hst ?_ | refine XW hst ?_) | ((with_reducible refine at_store ?_); (first | refine Y1 hst ?_ | refine YW hst ?_); clear hst; intro w hst)))
      refine ret_cell hst rfl rfl (by (repeat' (first | exact List.Mem.head _ | apply List.Mem.tail)); done) (by exact agg_of rfl rfl) rfl ?_
      first
        | exact PlainR.mk' (by decide) (by decide) (fun _ => LeafN.inf1 (by decide)) hst.kp.below
        | exact PlainR.mk' (by decide) (by decide) (fun _ => LeafN.inf2 (by decide)) hst.kp.below
        | exact PlainR.mk' (by decide) (by decide) (fun h => (h rfl).elim) hst.kp.below
  · go_wp2_with ((first | ((with_reducible refine at_load ?_); first | refine X1 hst ?_ | refine XW hst ?_) | ((with_reducible refine at_store ?_); (first | refine Y1 hst ?_ | refine YW hst ?_); clear hst; intro w hst)))
    refine ret_cell hst rfl rfl (by (repeat' (first | exact List.Mem.head _ | apply List.Mem.tail)); done) (by exact agg_of rfl rfl) rfl ?_
    exact PlainR.mk' (by decide) (by decide) (fun _ => .inr (.inr (.inr (.inr (.inr (.inr ⟨rfl, rfl⟩)))))) hst.kp.below
  · rcases hk with rfl | ⟨t, hsg, ⟨rfl, ht⟩ | ⟨rfl, ht⟩⟩
    · go_wp2_with ((first | ((with_reducible refine at_load ?_); first | refine X1 hst ?_ | refine XW hst ?_) | ((with_reducible refine at_store ?_); (first | refine Y1 hst ?_ | refine YW hst ?_); clear hst; intro w hst)))
      refine ret_cell hst rfl rfl (by (repeat' (first | exact List.Mem.head _ | apply List.Mem.tail)); done) (by exact agg_of rfl rfl) rfl ?_
      exact PlainR.mk' (by decide) (by decide) (fun _ => .inl rfl) hst.kp.below
    · go_wp2_with ((first | ((with_reducible refine at_load ?_); first | refine X1 hst ?_ | refine XW hst ?_) | ((with_reducible refine at_store ?_); (first | refine Y1 hst ?_ | refine YW hst ?_); clear hst; intro w hst)))
      refine (signed_any v _ (size_plain hsg (size_dg ht)) hv).mono ?_
      rintro e w1 ⟨x, hx, rfl, rfl⟩
      go_wp2_with ((first | ((with_reducible refine at_load ?_); first | refine X1 hst ?_ | refine XW hst ?_) | ((with_reducible refine at_store ?_); (first | refine Y1 hst ?_ | refine YW hst ?_); clear hst; intro w hst)))
      refine ret_cell hst rfl rfl (by (repeat' (first | exact List.Mem.head _ | apply List.Mem.tail)); done) (by exact agg_of rfl rfl) rfl ?_
      exact PlainR.mk' (by decide) (by decide) (fun hp => .inr (.inr (.inr (.inl ⟨rfl, int_of hsg ht hp hx⟩)))) hst.kp.below
    · go_wp2_with ((first | ((with_reducible refine at_load ?_); first | refine X1 hst ?_ | refine XW hst ?_) | ((with_reducible refine at_store ?_); (first | refine Y1 hst ?_ | refine YW hst ?_); clear hst; intro w hst)))
      refine ret_cell hst rfl rfl (by (repeat' (first | exact List.Mem.head _ | apply List.Mem.tail)); done) (by exact agg_of rfl rfl) rfl ?_
      exact PlainR.mk' (by decide) (by decide) (fun hp => .inr (.inr (.inr (.inr (.inl ⟨rfl, t, ht, plus_of hsg hp⟩))))) hst.kp.below
end Go.Proofs.YtpajcfkldnbpfaaGreatDoor
