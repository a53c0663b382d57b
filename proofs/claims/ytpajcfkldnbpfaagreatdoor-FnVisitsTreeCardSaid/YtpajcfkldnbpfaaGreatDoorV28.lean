/- VisitsTree. trLeft, given Left. -/
import Derived.Test.YtpajcfkldnbpfaaGreatDoorV19
import Derived.Test.YtpajcfkldnbpfaaGreatDoorV27
import Derived.Defers
import Derived.Recover
import Derived.Test.YtpajcfkldnbpfaaGreatDoorV26
set_option linter.unusedSimpArgs false
set_option linter.unusedVariables false
namespace Go.Proofs.YtpajcfkldnbpfaaGreatDoor
open Go.RowKit
def KeepT (w w' : World) : Prop := ∀ (i : Nat) (cs : Array Value) (t : Nat) (fr : Nat × Nat), w.heap[i]? = some (.cells cs t fr) → t ∉ [29, 31, 36] → w'.heap[i]? = some (.cells cs t fr)
theorem Blk.keepT {w w' : World} (hk : KeepT w w') {b t : Nat} {l : List Value} (h : Blk w b t l) (ht : t ∉ [29, 31, 36]) : Blk w' b t l := hk _ _ _ _ h ht
theorem AstN.keepT {w w' : World} {c : Int} (hb : KeepT w w') : ∀ {f : F NH} {lo hi : Nat} {bs : List Nat}, AstN w c lo hi f bs → AstN w' c lo hi f bs := by
  have hS : ∀ {t : Nat} {p : Option Addr} {vs : List Value}, t ∉ [29, 31, 36] → SlV w t p vs → SlV w' t p vs := fun ht h => by
    rcases h with h | ⟨b, sp, h1, h2⟩
    · exact .inl h
    · exact .inr ⟨b, sp, h1, h2.keepT hb ht⟩
  intro f
  induction f with
  | nil => intro lo hi bs h; exact h
  | cons h k r ihk ihr =>
    rintro lo hi bs ⟨b, bs', ba, tk, pb, m1, mid, kb, e, h1, h2, ht, hba, hn, hk, hr⟩
    refine ⟨b, bs', ba, tk, pb, m1, mid, kb, e, h1, h2, ⟨ht.1.keepT hb (by decide), ht.2.keepT hb (by decide)⟩, hba.keepT hb (by decide), ?_, ihk hk, ihr hr⟩
    rcases hn with ⟨g, h⟩ | ⟨g, v, h, h'⟩ | ⟨g, v, h, h'⟩ | ⟨g, f, h⟩ | ⟨g, f, h, h'⟩ | ⟨g, h', h⟩ | ⟨g, h⟩ | ⟨g, k0, h', h⟩ | ⟨g, p, c, h1, h2, h⟩ | ⟨g, v0, v1, h', h⟩ | ⟨g, p, c, pc, cc, h1, h2, h3, h4, h⟩ | ⟨g, v0, v1, h', h⟩ | ⟨g, v0, h', h⟩ | ⟨g, v0, h', h⟩
    · exact .inl ⟨g, h.keepT hb (by decide)⟩
    · exact .inr (.inl ⟨g, v, h.keepT hb (by decide), h'⟩)
    · exact .inr (.inr (.inl ⟨g, v, h.keepT hb (by decide), h'⟩))
    · exact .inr (.inr (.inr (.inl ⟨g, f, h.keepT hb (by decide)⟩)))
    · exact .inr (.inr (.inr (.inr (.inl ⟨g, f, h.keepT hb (by decide), h'⟩))))
    · exact .inr (.inr (.inr (.inr (.inr (.inl ⟨g, h', h.keepT hb (by decide)⟩)))))
    · exact .inr (.inr (.inr (.inr (.inr (.inr (.inl ⟨g, h.keepT hb (by decide)⟩))))))
    · exact .inr (.inr (.inr (.inr (.inr (.inr (.inr (.inl ⟨g, k0, h', h.keepT hb (by decide)⟩)))))))
    · exact .inr (.inr (.inr (.inr (.inr (.inr (.inr (.inr (.inl ⟨g, p, c, h1, hS (by decide) h2, h.keepT hb (by decide)⟩))))))))
    · exact .inr (.inr (.inr (.inr (.inr (.inr (.inr (.inr (.inr (.inl ⟨g, v0, v1, h', h.keepT hb (by decide)⟩)))))))))
    · exact .inr (.inr (.inr (.inr (.inr (.inr (.inr (.inr (.inr (.inr (.inl ⟨g, p, c, pc, cc, h1, h2, hS (by decide) h3, hS (by decide) h4, h.keepT hb (by decide)⟩))))))))))
    · exact .inr (.inr (.inr (.inr (.inr (.inr (.inr (.inr (.inr (.inr (.inr (.inl ⟨g, v0, v1, h', h.keepT hb (by decide)⟩)))))))))))
    · exact .inr (.inr (.inr (.inr (.inr (.inr (.inr (.inr (.inr (.inr (.inr (.inr (.inl ⟨g, v0, h', h.keepT hb (by decide)⟩))))))))))))
    · exact .inr (.inr (.inr (.inr (.inr (.inr (.inr (.inr (.inr (.inr (.inr (.inr (.inr ⟨g, v0, h', h.keepT hb (by decide)⟩))))))))))))
theorem catch_idle (p q : Value) (w : World) : CallsD Tryz.prog 16 #[p, q] .returning w fun e u' w' => e = .returned (.tuple #[]) ∧ u' = .returning ∧ w' = w := by
  refine callsD_of_wpS Tryz.func16 rfl fun c₀ cs hu => ?_
  apply wpS_seq
  apply wpS_region
  simp [wpOpsS, go_sem, recoverD, hu, Tryz.ntmps16, Exit.thenS]
  refine wpS_cond (t := false) (by simp [Act.eval, Array.replicate]) ?_
  simp only [Bool.false_eq_true, if_false]
  refine wpS_of_wp (wp_skip ?_)
  cases c₀
  simp_all [bodyPostS, results, Tryz.results16]
theorem splice_end {xs z ys sp : List Value} (hz : z.length = 19) (hy : ys.length = 19) : xs ++ ys ++ sp = ((xs ++ z) ++ sp).take xs.length ++ ys ++ ((xs ++ z) ++ sp).drop (xs.length + ys.length) := by
  have h1 : ((xs ++ z) ++ sp).take xs.length = xs := by rw [List.append_assoc, List.take_left' rfl]
  have h2 : ((xs ++ z) ++ sp).drop (xs.length + ys.length) = sp := List.drop_left' (by rw [List.length_append, hz, hy])
  rw [h1, h2]
theorem wp_nopanic {P : Program} {c : Code} {Q : Exit → Act → World → Prop} {a : Act} {w : World} (h : c.wp P (fun e a w => e = .normal ∧ Q .normal a w) a w) : c.wp P Q a w := wp_cut (fun a w => Q .normal a w) h (fun _ _ h => h)
theorem run_results2 {P : Program} {w : World} {fn : Func} {tmps : Array Value} {p T b p2 T2 b2 : Nat} {v v2 : Value} (hf : fn.results = #[.cell p T, .cell p2 T2]) (hp : tmps.getD p undef = .pointer (some ⟨b, 0, none⟩)) (hp2 : tmps.getD p2 undef = .pointer (some ⟨b2, 0, none⟩)) (hl : (loadVar T ⟨b, 0, none⟩).run P w = .ok v w) (hl2 : (loadVar T2 ⟨b2, 0, none⟩).run P w = .ok v2 w) : (results fn tmps).run P w = .ok (.tuple #[v, v2]) w := by
  have hp' : tmps[p]?.getD undef = .pointer (some ⟨b, 0, none⟩) := by simpa using hp
  have hp2' : tmps[p2]?.getD undef = .pointer (some ⟨b2, 0, none⟩) := by simpa using hp2
  simp [results, hf, hp', hp2', asAddr, hl, hl2]
theorem Gr.swap {sz n cap : Nat} {oid : Option Nat} {xs xs' sp : List Value} (h : Gr sz oid n cap xs sp) (e : xs'.length = xs.length) : Gr sz oid n cap xs' sp := ⟨by rw [e]; exact h.len, by rw [e]; exact h.all, h.le, h.max, h.nil⟩
theorem SeenAt.keepT {w w' : World} {c : Int} {h : NH} {v : Value} (hk : KeepT w w') (hs : SeenAt w c h v) : SeenAt w' c h v := by
  obtain ⟨k, b, lo, hi, e, h1, h2, h4, h3⟩ := hs
  exact ⟨k, b, lo, hi, e, h1, h2, h4, h3.keepT hk⟩
theorem St.keepT {B : Nat} {w0 w : World} {L : Rws} (h : St B ⟨[29, 31, 36], []⟩ w0 w L) : KeepT w0 w := fun i cs t fr hb ht => h.kp.typ i cs t fr hb ht List.not_mem_nil
def VisitsR (f : List NH) (w0 : World) (e : Ending) (w' : World) : Prop := ∃ (g cap : Nat) (f' : List NH) (sp : List Value), Alike f f' ∧ e = .returned (.tuple #[.slice (some ⟨g, 0, none⟩) f.length cap, .agg #[.int .i64 0, .int .i64 0, .int .i64 0, .int .i64 0, .int .i64 0, .int .i64 0]]) ∧ w0.heap.size ≤ g ∧ Blk w' g 31 (cellsN f' ++ sp) ∧ Below w0.heap.size w0 w'
set_option maxRecDepth 100000 in
set_option maxHeartbeats 4000000 in
theorem visitsTree_any (hF : FloatsOK) (hPF : ∀ s, FloatN s → PFC s) (A : Nat → Nat → Prop) (h : NH) (k : F NH) (p : Option Addr) (c : Nat) (w0 : World) (hs : SlT A w0 p k) (hkc : k.len ≤ c) (hok : NOK h k) (hall : k.all NOK) (hsz : k.size ≤ 900) : Calls Tryz.prog 8 #[nval h (.slice p k.len c)] w0 (VisitsR (h :: k.flat) w0) := by
  have hmf : ∀ (fn : Fn) (first cap : Array Value) (w : World), (Instr.makeFunc fn first cap).run Tryz.prog w = .ok (.func fn first cap) w := fun _ _ _ _ => rfl
  have HBC := Lib.hid (build_all hPF _ h k (Nat.lt_succ_self _) (by omega) hok hall)
  have HS := Lib.hid (And.intro hs (And.intro hkc (And.intro hok hall)))
  clear hs hkc hok hall
  have hst := St.nil w0.heap.size ⟨[], []⟩ w0 (Nat.le_refl _)
  unfold nval
  go_enter_defers Tryz.func8, Tryz.ntmps8
  go_wp2_with ((first | ((with_reducible refine at_load ?_); first | refine X1 hst ?_ | refine XW hst ?_) | ((with_reducible refine at_store ?_); (first | refine Y1 hst ?_ | refine YW hst ?_); clear hst; intro w hst) | ((first | ((with_reducible refine at_alloc ?_); refine ZP hst ?_) | ((with_reducible refine at_box ?_); refine ZP hst ?_) | ((with_reducible refine at_bslice ?_); refine ZS hst ?_)); clear hst; (first | ((fail_if_success have := b0); intro b0 w hb0 hst) | ((fail_if_success have := b1); intro b1 w hb1 hst) | ((fail_if_success have := b2); intro b2 w hb2 hst) | ((fail_if_success have := b3); intro b3 w hb3 hst) | ((fail_if_success have := b4); intro b4 w hb4 hst) | (intro b5 w hb5 hst)))))
  refine (HBC.out A p c _ (HS.out.1.lt hst.kp.below) HS.out.2.1 HS.out.2.2.1 HS.out.2.2.2).mono ?_
  rintro e w1 ⟨b, rfl, hast, hb⟩
  have hast1 := hast w1 (Agree.refl _ _)
  have hz0 := hst.kp.size
  replace hst := hst.below hb
  have HST := Lib.hid hst
  have HA := Lib.hid hast1
  clear hast hast1 hb hst
  unfold nodeV
  go_wp2_with fail
  refine (visited_any h k b _ _ _ HA.out HS.out.2.2.1 HS.out.2.2.2 hsz).mono ?_
  rintro e w2 ⟨oy, cy, ys, sy, rfl, hseen, hgy, hsty⟩
  have hfl : (h :: k.flat).length = k.size + 1 := by simp [F.flat_length]
  rw [hfl] at hgy
  rw [hfl]
  obtain ⟨gy, rfl⟩ : ∃ gy, oy = some gy := by
    cases oy with
    | none => have h1 := hgy.nil rfl; have h2 := hgy.le; omega
    | some g => exact ⟨g, rfl⟩
  rw [show slP (some gy) = some ⟨gy, 0, none⟩ from rfl]
  have hly : w1.heap.size ≤ gy := by
    rcases (hsty.rows gy _ 55 (by (repeat' (first | exact List.Mem.head _ | apply List.Mem.tail)); done)).2 with h5 | ⟨h5, _⟩
    · exact h5
    · exact h5
  have hst1 : St w0.heap.size [29, 31, 36] w1 w1 [(some b2, [.int .i64 0, .int .i64 0, .int .i64 0, .int .i64 0, .int .i64 0, .int .i64 0], 36), (some b1, [.slice none 0 0], 29)] := HST.out.rebase2 (.cons_cons _ (.cons_cons _ (List.nil_sublist _))) rfl
  have hst2 := ((hst1.below hsty.kp.below).addAt (b := gy) hly (hsty.blk (b := gy) (by (repeat' (first | exact List.Mem.head _ | apply List.Mem.tail)); done)) rfl).addNone [] 31
  have hst3 := hst2.perm (L' := [(some b1, [.slice none 0 0], 29), (none, [], 31), (some gy, ys ++ sy, 55), (some b2, [.int .i64 0, .int .i64 0, .int .i64 0, .int .i64 0, .int .i64 0, .int .i64 0], 36)]) ((List.perm_append_comm (l₁ := [_, _, _]) (l₂ := [_])).trans (.refl _))
  have HY := Lib.hid (And.intro hseen (And.intro hgy hfl))
  have HI0 := Lib.hid hst3
  have hT1 := Lib.hid (HS.out.1.2.below (HST.out.kp.below))
  have HZ := Lib.hid HST.out.kp.size
  clear hst1 hst2 hst3 hseen hgy hsty hly hfl
  go_wp2_with fail
  go_loopw [13] (fun i wx => ∃ (m : Nat) (oid : Option Nat) (cap : Nat) (hs' : List NH) (sp : List Value), i = .int .i64 m ∧ m ≤ k.size + 1 ∧ Hid (Alike ((h :: k.flat).take m) hs' ∧ Gr 19 oid m cap (cellsN hs') sp ∧ hs'.length = m) ∧ Hid (St w0.heap.size [29, 31, 36] w1 wx [(some b1, [.slice (slP oid) m cap], 29), (oid, cellsN hs' ++ sp, 31), (some gy, ys ++ sy, 55), (some b2, [.int .i64 0, .int .i64 0, .int .i64 0, .int .i64 0, .int .i64 0, .int .i64 0], 36)])) (fun i _ => k.size + 1 - (intOf i).toNat)
  case atStart => exact ⟨0, none, 0, [], [], rfl, Nat.zero_le _, Lib.hid ⟨trivial, Gr.empty 19, rfl⟩, HI0⟩
  case round =>
    obtain ⟨m, oid, cap, hs', sp, rfl, hmk, HG, HL⟩ := hrel
    by_cases hm : (m : Int) < (k.size + 1 : Nat)
    · obtain ⟨x, hx⟩ : ∃ x, (h :: k.flat)[m]? = some x := ⟨(h :: k.flat)[m]'(by rw [HY.out.2.2]; omega), List.getElem?_eq_getElem _⟩
      obtain ⟨v, hyv, hsx⟩ := HY.out.1.get hx
      obtain ⟨kx, bx, lo, hi, rfl, hokx, hallx, hkx, hax⟩ := hsx.keepT HL.out.keepT
      have hcell := (HL.out.blk (b := gy) (by (repeat' (first | exact List.Mem.head _ | apply List.Mem.tail)); done)).cell (off := m) (by rw [List.getElem?_append_left (List.getElem?_eq_some_iff.1 hyv).1]; exact hyv)
      have hal := alone_any hF 0 x kx bx lo hi wr hax hokx hkx (HS.out.1.2.below ((HST.out.kp.below).trans HL.out.kp.below))
      have HAL := Lib.hid (And.intro hal hx)
      clear hal hx hyv hsx hokx hallx hkx hax
      unfold nodeV at hcell
      have hst := HL.out
      have hm2 : (m : Int) < (k.size : Int) + 1 := by omega
      have hm3 : m < k.size + 1 := by omega
      go_wp2_with fail
      refine HAL.out.1.mono ?_
      rintro e w3 ⟨va, pk, capk, lo2, hi2, kb, rfl, hva, -, -, -, hb⟩
      replace hst := hst.below hb
      have HVA := Lib.hid hva
      clear hb hva
      have ex : x.at va 0 = { x with value := va } := by simp [NH.at]
      rw [ex]
      clear ex
      unfold nval
      go_upto_region 6 with ((first | ((with_reducible refine at_load ?_); first | refine X1 hst ?_ | refine XW hst ?_) | ((with_reducible refine at_store ?_); (first | refine Y1 hst ?_ | refine YW hst ?_); clear hst; intro w hst) | ((first | ((with_reducible refine at_alloc ?_); refine ZP hst ?_) | ((with_reducible refine at_box ?_); refine ZP hst ?_) | ((with_reducible refine at_bslice ?_); refine ZS hst ?_)); clear hst; (first | ((fail_if_success have := b0); intro b0 w hb0 hst) | ((fail_if_success have := b1); intro b1 w hb1 hst) | ((fail_if_success have := b2); intro b2 w hb2 hst) | ((fail_if_success have := b3); intro b3 w hb3 hst) | ((fail_if_success have := b4); intro b4 w hb4 hst) | (intro b5 w hb5 hst)))))
      refine wp_nopanic ?_
      refine wp_plan (fun wy => St w0.heap.size [29, 31, 36] w1 wy [(some b3, [.int .i64 ({ x with value := va } : NH).kind, .int .i64 ({ x with value := va } : NH).typ, .string ({ x with value := va } : NH).value, .string ({ x with value := va } : NH).text, .string ({ x with value := va } : NH).text, .string ByteArray.empty, .bool ({ x with value := va } : NH).flow, .bool false, .bool false, .int .i64 1, .int .i64 ({ x with value := va } : NH).col, .int .i64 ({ x with value := va } : NH).off, .int .i64 0, .int .i64 0, .slice none 0 0, .slice none 0 0, .slice none 0 0, .slice none 0 0, .slice none 0 0], 31), (some b1, [.slice (slP oid) m cap], 29)]) [0, 1, 2] (.q 0 (.q 1 (.q 2 (.e 3 true (.e 4 false (.e2 5 false (.e2 6 false (.e 7 false (.fin)) 7 false (.e 6 false (.fin))) 7 false (.e 5 false (.e 6 false (.fin))))))))) mixed (by kernel_rfl) (by kernel_rfl) (by kernel_rfl) (fun d v c a w h => absurd h.1 (by simp)) (hst.drew.sub (.cons_cons _ (.cons_cons _ (List.nil_sublist _)))) ?_
      replace hst := hst.drew
      repeat ((refine AQ ?_); first | (refine Q1 ?_; go_frame) | (refine QW ?_; go_frame) | (refine QV ?_; go_frame))
      refine at_e (by simp only [List.getElem?_toArray, List.getElem?_cons_succ, List.getElem?_cons_zero]; rfl) rfl ?_
      refine p_newS hst (by go_simp; first | rfl | exact ⟨⟨rfl, rfl⟩, rfl⟩) ?_
      clear hst
      intro b4 w hb4 hst
      refine ⟨fun _ => hst.sub (.cons _ (.cons_cons _ (.cons_cons _ (List.nil_sublist _)))), ?_⟩
      go_frame
      replace hst := hst.perm ((List.perm_middle (l₁ := [_, _])).cons _)
      simp only [List.cons_append, List.nil_append] at hst
      refine at_e (by simp only [List.getElem?_toArray, List.getElem?_cons_succ, List.getElem?_cons_zero]; rfl) rfl ?_
      refine p_appH hst rfl rfl rfl el29 HG.out.2.1 (by decide) (by decide) rfl rfl (by omega) (by simp only [maxLen]; omega) ?_
      clear hst
      intro oid' cap' sp' w hst hgr hno
      obtain ⟨g', rfl⟩ : ∃ g', oid' = some g' := by
        cases oid' with
        | none => exact absurd rfl hno
        | some g => exact ⟨g, rfl⟩
      rw [show slP (some g') = some ⟨g', 0, none⟩ from rfl]
      refine ⟨fun _ => hst.sub (.cons _ (.cons_cons _ (.cons_cons _ (List.nil_sublist _)))), ?_⟩
      go_frame
      have HG2 := Lib.hid (And.intro hgr hno)
      clear hgr hno
      have HP := Lib.hid (And.intro HG.out.2.1.len HG.out.2.2)
      have hlx : (cellsN hs').length = m * 19 := HG.out.2.1.len
      have HSP := Lib.hid (show (cellsN hs' ++ [.int .i64 ({ x with value := va } : NH).kind, .int .i64 ({ x with value := va } : NH).typ, .string ({ x with value := va } : NH).value, .string ({ x with value := va } : NH).text, .string ({ x with value := va } : NH).text, .string ByteArray.empty, .bool ({ x with value := va } : NH).flow, .bool false, .bool false, .int .i64 1, .int .i64 ({ x with value := va } : NH).col, .int .i64 ({ x with value := va } : NH).off, .int .i64 0, .int .i64 0, .slice none 0 0, .slice none 0 0, .slice none 0 0, .slice none 0 0, .slice none 0 0]) ++ sp' = ((cellsN hs' ++ ([.int .i64 0, .int .i64 0, .string ByteArray.empty, .string ByteArray.empty, .string ByteArray.empty, .string ByteArray.empty, .bool false, .bool false, .bool false, .int .i64 0, .int .i64 0, .int .i64 0, .int .i64 0, .int .i64 0, .slice none 0 0, .slice none 0 0, .slice none 0 0, .slice none 0 0, .slice none 0 0] : List Value)) ++ sp').take (m * 19) ++ [.int .i64 ({ x with value := va } : NH).kind, .int .i64 ({ x with value := va } : NH).typ, .string ({ x with value := va } : NH).value, .string ({ x with value := va } : NH).text, .string ({ x with value := va } : NH).text, .string ByteArray.empty, .bool ({ x with value := va } : NH).flow, .bool false, .bool false, .int .i64 1, .int .i64 ({ x with value := va } : NH).col, .int .i64 ({ x with value := va } : NH).off, .int .i64 0, .int .i64 0, .slice none 0 0, .slice none 0 0, .slice none 0 0, .slice none 0 0, .slice none 0 0] ++ ((cellsN hs' ++ ([.int .i64 0, .int .i64 0, .string ByteArray.empty, .string ByteArray.empty, .string ByteArray.empty, .string ByteArray.empty, .bool false, .bool false, .bool false, .int .i64 0, .int .i64 0, .int .i64 0, .int .i64 0, .int .i64 0, .slice none 0 0, .slice none 0 0, .slice none 0 0, .slice none 0 0, .slice none 0 0] : List Value)) ++ sp').drop (m * 19 + 19) by
        have := splice_end (xs := cellsN hs') (z := [.int .i64 0, .int .i64 0, .string ByteArray.empty, .string ByteArray.empty, .string ByteArray.empty, .string ByteArray.empty, .bool false, .bool false, .bool false, .int .i64 0, .int .i64 0, .int .i64 0, .int .i64 0, .int .i64 0, .slice none 0 0, .slice none 0 0, .slice none 0 0, .slice none 0 0, .slice none 0 0]) (ys := [.int .i64 ({ x with value := va } : NH).kind, .int .i64 ({ x with value := va } : NH).typ, .string ({ x with value := va } : NH).value, .string ({ x with value := va } : NH).text, .string ({ x with value := va } : NH).text, .string ByteArray.empty, .bool ({ x with value := va } : NH).flow, .bool false, .bool false, .int .i64 1, .int .i64 ({ x with value := va } : NH).col, .int .i64 ({ x with value := va } : NH).off, .int .i64 0, .int .i64 0, .slice none 0 0, .slice none 0 0, .slice none 0 0, .slice none 0 0, .slice none 0 0]) (sp := sp') rfl rfl
        rw [hlx] at this
        exact this)
      have HLX := Lib.hid hlx
      clear hlx
      refine at_e2 (by simp only [List.getElem?_toArray, List.getElem?_cons_succ, List.getElem?_cons_zero]; rfl) rfl (by simp only [List.getElem?_toArray, List.getElem?_cons_succ, List.getElem?_cons_zero]; rfl) rfl ?_ ?_
      · (refine e_val (v := .pointer (some ⟨g', m * 19, none⟩)) (by go_simp; rw [if_pos (by omega)]) (fun h => absurd h (by decide)) ?_; go_frame)
        refine at_e2 (by simp only [List.getElem?_toArray, List.getElem?_cons_succ, List.getElem?_cons_zero]; rfl) rfl (by simp only [List.getElem?_toArray, List.getElem?_cons_succ, List.getElem?_cons_zero]; rfl) rfl ?_ ?_
        · (refine p_part hst (off := m * 19) (vs := [.int .i64 ({ x with value := va } : NH).kind, .int .i64 ({ x with value := va } : NH).typ, .string ({ x with value := va } : NH).value, .string ({ x with value := va } : NH).text, .string ({ x with value := va } : NH).text, .string ByteArray.empty, .bool ({ x with value := va } : NH).flow, .bool false, .bool false, .int .i64 1, .int .i64 ({ x with value := va } : NH).col, .int .i64 ({ x with value := va } : NH).off, .int .i64 0, .int .i64 0, .slice none 0 0, .slice none 0 0, .slice none 0 0, .slice none 0 0, .slice none 0 0]) (by exact rfl) (by exact rfl) (by exact rfl) (.head (l' := (cellsN hs' ++ [.int .i64 ({ x with value := va } : NH).kind, .int .i64 ({ x with value := va } : NH).typ, .string ({ x with value := va } : NH).value, .string ({ x with value := va } : NH).text, .string ({ x with value := va } : NH).text, .string ByteArray.empty, .bool ({ x with value := va } : NH).flow, .bool false, .bool false, .int .i64 1, .int .i64 ({ x with value := va } : NH).col, .int .i64 ({ x with value := va } : NH).off, .int .i64 0, .int .i64 0, .slice none 0 0, .slice none 0 0, .slice none 0 0, .slice none 0 0, .slice none 0 0]) ++ sp')) HSP.out (by exact szn_of rfl rfl) (by rw [List.length_append, List.length_append, HLX.out]; first | (simp; done) | (simp; omega)) rfl ?_; clear hst; intro w hst; refine ⟨fun h => absurd h (by decide), ?_⟩; go_frame)
          refine at_e (by simp only [List.getElem?_toArray, List.getElem?_cons_succ, List.getElem?_cons_zero]; rfl) rfl ?_
          (refine E1 hst ?_; clear hst; intro w hst; refine ⟨fun h => absurd h (by decide), ?_⟩; go_frame)
          (unfold wpP; refine ⟨rfl, ?_⟩; go_wp2_with fail; go_round; (focus (exact ⟨m + 1, some g', cap', hs' ++ [{ x with value := va }], sp', (by rw [show (m : Int) + 1 = ((m + 1 : Nat) : Int) by omega]), (by omega), Lib.hid ⟨(by rw [List.take_add_one, HAL.out.2]; exact HG.out.1.snoc HVA.out), HG2.out.1.swap (by rw [cellsN_append, List.length_append, List.length_append]; rfl), (by rw [List.length_append, HG.out.2.2]; rfl)⟩, Lib.hid (by rw [cellsN_append]; exact (hst.perm ((List.perm_middle (l₁ := [_, _])).symm)).sub (.cons _ (List.Sublist.refl _)))⟩)); all_goals (first | (simp [intOf]; done) | (simp [intOf]; omega)))
        · (refine E1 hst ?_; clear hst; intro w hst; refine ⟨fun h => absurd h (by decide), ?_⟩; go_frame)
          refine at_e (by simp only [List.getElem?_toArray, List.getElem?_cons_succ, List.getElem?_cons_zero]; rfl) rfl ?_
          (refine p_part hst (off := m * 19) (vs := [.int .i64 ({ x with value := va } : NH).kind, .int .i64 ({ x with value := va } : NH).typ, .string ({ x with value := va } : NH).value, .string ({ x with value := va } : NH).text, .string ({ x with value := va } : NH).text, .string ByteArray.empty, .bool ({ x with value := va } : NH).flow, .bool false, .bool false, .int .i64 1, .int .i64 ({ x with value := va } : NH).col, .int .i64 ({ x with value := va } : NH).off, .int .i64 0, .int .i64 0, .slice none 0 0, .slice none 0 0, .slice none 0 0, .slice none 0 0, .slice none 0 0]) (by exact rfl) (by exact rfl) (by exact rfl) (.head (l' := (cellsN hs' ++ [.int .i64 ({ x with value := va } : NH).kind, .int .i64 ({ x with value := va } : NH).typ, .string ({ x with value := va } : NH).value, .string ({ x with value := va } : NH).text, .string ({ x with value := va } : NH).text, .string ByteArray.empty, .bool ({ x with value := va } : NH).flow, .bool false, .bool false, .int .i64 1, .int .i64 ({ x with value := va } : NH).col, .int .i64 ({ x with value := va } : NH).off, .int .i64 0, .int .i64 0, .slice none 0 0, .slice none 0 0, .slice none 0 0, .slice none 0 0, .slice none 0 0]) ++ sp')) HSP.out (by exact szn_of rfl rfl) (by rw [List.length_append, List.length_append, HLX.out]; first | (simp; done) | (simp; omega)) rfl ?_; clear hst; intro w hst; refine ⟨fun h => absurd h (by decide), ?_⟩; go_frame)
          (unfold wpP; refine ⟨rfl, ?_⟩; go_wp2_with fail; go_round; (focus (exact ⟨m + 1, some g', cap', hs' ++ [{ x with value := va }], sp', (by rw [show (m : Int) + 1 = ((m + 1 : Nat) : Int) by omega]), (by omega), Lib.hid ⟨(by rw [List.take_add_one, HAL.out.2]; exact HG.out.1.snoc HVA.out), HG2.out.1.swap (by rw [cellsN_append, List.length_append, List.length_append]; rfl), (by rw [List.length_append, HG.out.2.2]; rfl)⟩, Lib.hid (by rw [cellsN_append]; exact (hst.perm ((List.perm_middle (l₁ := [_, _])).symm)).sub (.cons _ (List.Sublist.refl _)))⟩)); all_goals (first | (simp [intOf]; done) | (simp [intOf]; omega)))
      · (refine E1 hst ?_; clear hst; intro w hst; refine ⟨fun h => absurd h (by decide), ?_⟩; go_frame)
        refine at_e (by simp only [List.getElem?_toArray, List.getElem?_cons_succ, List.getElem?_cons_zero]; rfl) rfl ?_
        (refine e_val (v := .pointer (some ⟨g', m * 19, none⟩)) (by go_simp; rw [if_pos (by omega)]) (fun h => absurd h (by decide)) ?_; go_frame)
        refine at_e (by simp only [List.getElem?_toArray, List.getElem?_cons_succ, List.getElem?_cons_zero]; rfl) rfl ?_
        (refine p_part hst (off := m * 19) (vs := [.int .i64 ({ x with value := va } : NH).kind, .int .i64 ({ x with value := va } : NH).typ, .string ({ x with value := va } : NH).value, .string ({ x with value := va } : NH).text, .string ({ x with value := va } : NH).text, .string ByteArray.empty, .bool ({ x with value := va } : NH).flow, .bool false, .bool false, .int .i64 1, .int .i64 ({ x with value := va } : NH).col, .int .i64 ({ x with value := va } : NH).off, .int .i64 0, .int .i64 0, .slice none 0 0, .slice none 0 0, .slice none 0 0, .slice none 0 0, .slice none 0 0]) (by exact rfl) (by exact rfl) (by exact rfl) (.head (l' := (cellsN hs' ++ [.int .i64 ({ x with value := va } : NH).kind, .int .i64 ({ x with value := va } : NH).typ, .string ({ x with value := va } : NH).value, .string ({ x with value := va } : NH).text, .string ({ x with value := va } : NH).text, .string ByteArray.empty, .bool ({ x with value := va } : NH).flow, .bool false, .bool false, .int .i64 1, .int .i64 ({ x with value := va } : NH).col, .int .i64 ({ x with value := va } : NH).off, .int .i64 0, .int .i64 0, .slice none 0 0, .slice none 0 0, .slice none 0 0, .slice none 0 0, .slice none 0 0]) ++ sp')) HSP.out (by exact szn_of rfl rfl) (by rw [List.length_append, List.length_append, HLX.out]; first | (simp; done) | (simp; omega)) rfl ?_; clear hst; intro w hst; refine ⟨fun h => absurd h (by decide), ?_⟩; go_frame)
        (unfold wpP; refine ⟨rfl, ?_⟩; go_wp2_with fail; go_round; (focus (exact ⟨m + 1, some g', cap', hs' ++ [{ x with value := va }], sp', (by rw [show (m : Int) + 1 = ((m + 1 : Nat) : Int) by omega]), (by omega), Lib.hid ⟨(by rw [List.take_add_one, HAL.out.2]; exact HG.out.1.snoc HVA.out), HG2.out.1.swap (by rw [cellsN_append, List.length_append, List.length_append]; rfl), (by rw [List.length_append, HG.out.2.2]; rfl)⟩, Lib.hid (by rw [cellsN_append]; exact (hst.perm ((List.perm_middle (l₁ := [_, _])).symm)).sub (.cons _ (List.Sublist.refl _)))⟩)); all_goals (first | (simp [intOf]; done) | (simp [intOf]; omega)))
    · have e : m = k.size + 1 := by omega
      subst e
      have hst := HL.out
      clear HL
      go_wp2_with ((first | ((with_reducible refine at_load ?_); first | refine X1 hst ?_ | refine XW hst ?_) | ((with_reducible refine at_store ?_); (first | refine Y1 hst ?_ | refine YW hst ?_); clear hst; intro w hst)))
      refine leaves_cons (f := 16) (args := #[.pointer (some ⟨b1, 0, none⟩), .pointer (some ⟨b2, 0, none⟩)]) (by simp) (by simp [go_sem]) ?_
      refine (catch_idle _ _ _).mono ?_
      rintro e u' w'' ⟨rfl, rfl, rfl⟩
      obtain ⟨g, rfl⟩ : ∃ g, oid = some g := by
        cases oid with
        | none => have h1 := HG.out.2.1.nil rfl; have h2 := HG.out.2.1.le; omega
        | some g => exact ⟨g, rfl⟩
      have hal := HG.out.1
      rw [List.take_of_length_le (by rw [HY.out.2.2]; exact Nat.le_refl _)] at hal
      refine ⟨_, run_results2 rfl rfl rfl (run_load_one (one_of (by decide +kernel)) ((hst.blk (b := b1) (by (repeat' (first | exact List.Mem.head _ | apply List.Mem.tail)); done)).cell (off := 0) rfl)) (run_load_cells (vs := [.int .i64 0, .int .i64 0, .int .i64 0, .int .i64 0, .int .i64 0, .int .i64 0]) (by exact agg_of rfl rfl) (fun j v hv => by simpa using (hst.blk (b := b2) (by (repeat' (first | exact List.Mem.head _ | apply List.Mem.tail)); done)).cell hv)), ?_⟩
      refine ⟨g, cap, hs', sp, hal, ?_, ?_, hst.blk (b := g) (by (repeat' (first | exact List.Mem.head _ | apply List.Mem.tail)); done), (HST.out.kp.below).trans hst.kp.below⟩
      · rw [HY.out.2.2]; rfl
      · rcases (hst.rows g _ 31 (by (repeat' (first | exact List.Mem.head _ | apply List.Mem.tail)); done)).2 with h5 | ⟨h5, _⟩
        · exact Nat.le_trans HZ.out h5
        · exact h5
end Go.Proofs.YtpajcfkldnbpfaaGreatDoor
namespace Go.Proofs.YtpajcfkldnbpfaaGreatDoor
open Go.RowKit
def LeftR (s : ByteArray) (w : World) (e : Ending) (w' : World) : Prop := ∃ b : Bool, e = .returned (.bool b) ∧ (s.data.toList.head? = some 43 → b = true) ∧ Below w.heap.size w w'
def LeftC (name : ByteArray) : Prop := ∀ s : ByteArray, s.size ≤ 40 → PlainOk s → ∀ w : World, Tabs w → Calls Tryz.prog 15 #[.string name, .string s] w (LeftR s w)
def TrL (h : TH) (k : F TH) (w : World) (e : Ending) (w' : World) : Prop := ∃ b : Bool, e = .returned (.bool b) ∧ (b = false → NoPlus h k ∧ k.all NoPlus) ∧ Below w.heap.size w w'
theorem F.all_of_get {H : Type} {p : H → F H → Prop} : ∀ {f : F H}, (∀ i x kk, f.get i = some (x, kk) → p x kk ∧ kk.all p) → f.all p := by
  intro f
  induction f with
  | nil => intro _; trivial
  | cons h k r ihk ihr =>
    intro hg
    obtain ⟨h1, h2⟩ := hg 0 h k rfl
    exact ⟨h1, h2, ihr fun i x kk hi => hg (i + 1) x kk hi⟩
set_option maxRecDepth 100000 in
set_option maxHeartbeats 2000000 in
theorem trLeft_any (name : ByteArray) (hL : LeftC name) : ∀ (s : Nat) (h : TH) (k : F TH) (A : Nat → Nat → Prop) (p : Option Addr) (c : Nat) (w0 : World), k.size < s → k.size ≤ 1000 → Sl TS A w0 p k → NodeOK h k → k.all NodeOK → Tabs w0 → Calls Tryz.prog 7 #[.string name, tval h (.slice p k.len c)] w0 (TrL h k w0) := by
  intro s
  induction s with
  | zero => intro h k A p c w0 hs; exact absurd hs (Nat.not_lt_zero _)
  | succ s ih =>
    intro h k A p c w0 hs hsz hsl hok hall hT
    have hkl := F.len_le_size k
    have HS := Lib.hid (And.intro hsl (And.intro ih (And.intro hok (And.intro hall (And.intro hT hL)))))
    clear hsl ih hok hall hT
    have hst := St.nil w0.heap.size ⟨[], []⟩ w0 (Nat.le_refl _)
    obtain ⟨kd, tv, ta, tt, sty⟩ := h
    unfold tval
    go_enter Tryz.func7, Tryz.ntmps7
    go_upto_region 1 with ((first | ((with_reducible refine at_load ?_); first | refine X1 hst ?_ | refine XW hst ?_) | ((with_reducible refine at_store ?_); (first | refine Y1 hst ?_ | refine YW hst ?_); clear hst; intro w hst) | ((first | ((with_reducible refine at_alloc ?_); refine ZP hst ?_) | ((with_reducible refine at_box ?_); refine ZP hst ?_) | ((with_reducible refine at_bslice ?_); refine ZS hst ?_)); clear hst; (first | ((fail_if_success have := b0); intro b0 w hb0 hst) | (intro b1 w hb1 hst)))))
    have c0 := hst.cell (b := b0) (off := 0) (by (repeat' (first | exact List.Mem.head _ | apply List.Mem.tail)); done) rfl
    have c1 := hst.cell (b := b0) (off := 1) (by (repeat' (first | exact List.Mem.head _ | apply List.Mem.tail)); done) rfl
    have c4 := hst.cell (b := b0) (off := 4) (by (repeat' (first | exact List.Mem.head _ | apply List.Mem.tail)); done) rfl
    go_cut [20] (fun y wx => ∃ b : Bool, y = .bool b ∧ Hid (b = false → NoPlus ⟨kd, tv, ta, tt, sty⟩ k) ∧ St w0.heap.size ⟨[], []⟩ w0 wx [(some b0, [.int .i64 kd, .string tv, .string ta, .string tt, .int .i64 sty, .slice p k.len c], 24)])
    case first =>
      by_cases h1 : kd = 1
      · subst h1
        by_cases h2 : sty = 1
        · subst h2
          go_wp2_with fail
          refine (HS.out.2.2.2.2.2 tv HS.out.2.2.1.2.2.1 ?_ _ (HS.out.2.2.2.2.1.below hst.kp.below)).mono ?_
          · rcases HS.out.2.2.1.2.2.2 with hk | hk | ⟨hk, _⟩ | ⟨hk, _⟩
            · exact hk.2.2.2.2.2 rfl
            · simp only at hk; omega
            · simp only at hk; omega
            · simp only at hk; omega
          rintro e w1 ⟨b, rfl, hb43, hb⟩
          replace hst := hst.below hb
          have H43 := Lib.hid hb43
          clear hb hb43 c0 c1 c4
          go_wp2_with fail
          go_meet
          case rel => exact ⟨b, rfl, Lib.hid (fun e _ _ e2 => by rw [H43.out e2] at e; cases e), hst⟩
        · go_wp2_with fail
          go_meet
          case rel => exact ⟨false, rfl, Lib.hid (fun _ _ e2 => absurd e2 h2), hst⟩
      · go_wp2_with fail
        go_meet
        case rel => exact ⟨false, rfl, Lib.hid (fun _ e1 => absurd e1 h1), hst⟩
    case rest =>
    clear hst c0 c1 c4
    obtain ⟨b, rfl, HN, hst⟩ := hcut
    cases b
    · go_wp2_with ((first | ((with_reducible refine at_load ?_); first | refine X1 hst ?_ | refine XW hst ?_) | ((with_reducible refine at_store ?_); (first | refine Y1 hst ?_ | refine YW hst ?_); clear hst; intro w hst)))
      have HL := Lib.hid hst
      clear hst
      go_loopw [24] (fun i wx => ∃ m : Nat, i = .int .i64 m ∧ m ≤ k.len ∧ Hid ((∀ i x kk, i < m → k.get i = some (x, kk) → NoPlus x kk ∧ kk.all NoPlus) ∧ St w0.heap.size ⟨[], []⟩ w0 wx [])) (fun i _ => k.len - (intOf i).toNat)
      case atStart => exact ⟨0, rfl, Nat.zero_le _, Lib.hid ⟨fun i x kk hi => absurd hi (Nat.not_lt_zero _), HL.out.sub (List.nil_sublist _)⟩⟩
      case round =>
        obtain ⟨m, rfl, hmk, HI⟩ := hrel
        by_cases hm : (m : Int) < k.len
        · obtain ⟨x, kk, hg⟩ := F.get_lt (f := k) (i := m) (by omega)
          obtain ⟨pb', po, q, capq, tq, rfl, hcap, hslq, -, hlt, hcc⟩ := Sl.at2 HS.out.1 hg
          have hlow := HI.out.2.kp.low pb' hlt
          have hcell : ∀ (j : Nat) (v : Value), ([.int .i64 x.kind, .string x.v, .string x.a, .string x.t, .int .i64 x.st, .slice q kk.len capq] : List Value)[j]? = some v → wr.cell? ⟨pb', po + m * 6 + j, none⟩ = some v := fun j v hv => by
            have h1 := hcc j v hv
            simp only [World.cell?] at h1 ⊢
            rw [hlow]
            exact h1
          have hgs := F.size_get hg
          obtain ⟨ho1, ho2⟩ := F.all_get HS.out.2.2.2.1 hg
          have HC := Lib.hid (And.intro hcell (And.intro hslq (And.intro hg (And.intro ho1 ho2))))
          clear hcell hcap hslq hlt hcc hlow ho1 ho2 hg
          have hst := HI.out.2
          go_wp2_with (first | ((with_reducible refine at_load ?_); refine wl_ldc (vs := [.int .i64 x.kind, .string x.v, .string x.a, .string x.t, .int .i64 x.st, .slice q kk.len capq]) rfl rfl rfl HC.out.1 (by exact agg_of rfl rfl) ?_) | (first | ((with_reducible refine at_load ?_); first | refine X1 hst ?_ | refine XW hst ?_) | ((with_reducible refine at_store ?_); (first | refine Y1 hst ?_ | refine YW hst ?_); clear hst; intro w hst) | ((first | ((with_reducible refine at_alloc ?_); refine ZP hst ?_) | ((with_reducible refine at_box ?_); refine ZP hst ?_) | ((with_reducible refine at_bslice ?_); refine ZS hst ?_)); clear hst; (first | ((fail_if_success have := b0); intro b0 w hb0 hst) | (intro b1 w hb1 hst)))))
          refine (HS.out.2.1 x kk A q capq _ (by omega) (by omega) (HC.out.2.1.lt hst.kp.below) HC.out.2.2.2.1 HC.out.2.2.2.2 (HS.out.2.2.2.2.1.below hst.kp.below)).mono ?_
          rintro e w3 ⟨b, rfl, hbn, hb⟩
          replace hst := hst.below hb
          have HBN := Lib.hid hbn
          clear hb hbn
          cases b
          · go_wp2_with fail
            go_round
            case rel =>
              refine ⟨m + 1, by rw [show (m : Int) + 1 = ((m + 1 : Nat) : Int) by omega], by omega, Lib.hid ⟨fun i y ky hi hgi => ?_, hst.sub (List.nil_sublist _)⟩⟩
              by_cases e : i = m
              · subst e
                have h7 := HC.out.2.2.1
                rw [h7] at hgi
                cases hgi
                exact HBN.out (by simp)
              · exact HI.out.1 i y ky (by omega) hgi
            case measure => simp [intOf]; omega
          · go_wp2_with fail
            exact ret_tmp rfl rfl rfl ⟨true, rfl, fun e => (by cases e), hst.kp.below⟩
        · go_wp2_with fail
          refine ret_tmp rfl rfl rfl ⟨false, rfl, fun _ => ⟨HN.out (by simp), F.all_of_get fun i x kk hg => HI.out.1 i x kk (by have := F.lt_of_get hg; omega) hg⟩, HI.out.2.kp.below⟩
    · go_wp2_with fail
      exact ret_tmp rfl rfl rfl ⟨true, rfl, fun e => (by cases e), hst.kp.below⟩
end Go.Proofs.YtpajcfkldnbpfaaGreatDoor
