/- VisitsTree. FnVisitsTree. The reading of a tree, opened. -/
import Derived.Test.YtpajcfkldnbpfaaGreatDoorV19
import Derived.Test.YtpajcfkldnbpfaaGreatDoorV27
import Derived.Defers
import Derived.Recover
import Derived.Test.YtpajcfkldnbpfaaGreatDoorS01
import Derived.Test.YtpajcfkldnbpfaaGreatDoorV13
import Derived.BigFrame
import Derived.SizedLaws
import Derived.ChangeArms
import Derived.ChangeSame
set_option linter.unusedSimpArgs false
set_option linter.unusedVariables false
namespace Go.Proofs.YtpajcfkldnbpfaaGreatDoor
open Go.RowKit
def KeepT (w w' : World) : Prop := ∀ (i : Nat) (cs : Array Value) (t : Nat) (fr : Nat × Nat), w.heap[i]? = some (.cells cs t fr) → t ∉ [29, 31, 36] → w'.heap[i]? = some (.cells cs t fr)
theorem Blk.keepT {w w' : World} (hk : KeepT w w') {b t : Nat} {l : List Value} (h : Blk w b t l) (ht : t ∉ [29, 31, 36]) : Blk w' b t l := hk _ _ _ _ h ht
theorem AstN.keepT {w w' : World} {c : Int} (hb : KeepT w w') : ∀ {f : F NH} {lo hi : Nat} {bs : List Nat}, AstN w c lo hi f bs → AstN w' c lo hi f bs := by
  have hS : ∀ {t : Nat} {p : Option Addr} {vs : List Value}, t ∉ [29, 31, 36] → SlV w t p vs → SlV w' t p vs := fun ht h => by
    rcases h with h | ⟨b, sp, h1, h2⟩
    · exact .inl h
    · exact .inr ⟨b, sp, h1, h2.keepT hb ht⟩
  intro f
  induction f with
  | nil => intro lo hi bs h; exact h
  | cons h k r ihk ihr =>
    rintro lo hi bs ⟨b, bs', ba, tk, pb, m1, mid, kb, e, h1, h2, ht, hba, hn, hk, hr⟩
    refine ⟨b, bs', ba, tk, pb, m1, mid, kb, e, h1, h2, ⟨ht.1.keepT hb (by decide), ht.2.keepT hb (by decide)⟩, hba.keepT hb (by decide), ?_, ihk hk, ihr hr⟩
    rcases hn with ⟨g, h⟩ | ⟨g, v, h, h'⟩ | ⟨g, v, h, h'⟩ | ⟨g, f, h⟩ | ⟨g, f, h, h'⟩ | ⟨g, h', h⟩ | ⟨g, h⟩ | ⟨g, k0, h', h⟩ | ⟨g, p, c, h1, h2, h⟩ | ⟨g, v0, v1, h', h⟩ | ⟨g, p, c, pc, cc, h1, h2, h3, h4, h⟩ | ⟨g, v0, v1, h', h⟩ | ⟨g, v0, h', h⟩ | ⟨g, v0, h', h⟩
    · exact .inl ⟨g, h.keepT hb (by decide)⟩
    · exact .inr (.inl ⟨g, v, h.keepT hb (by decide), h'⟩)
    · exact .inr (.inr (.inl ⟨g, v, h.keepT hb (by decide), h'⟩))
    · exact .inr (.inr (.inr (.inl ⟨g, f, h.keepT hb (by decide)⟩)))
    · exact .inr (.inr (.inr (.inr (.inl ⟨g, f, h.keepT hb (by decide), h'⟩))))
    · exact .inr (.inr (.inr (.inr (.inr (.inl ⟨g, h', h.keepT hb (by decide)⟩)))))
    · exact .inr (.inr (.inr (.inr (.inr (.inr (.inl ⟨g, h.keepT hb (by decide)⟩))))))
    · exact .inr (.inr (.inr (.inr (.inr (.inr (.inr (.inl ⟨g, k0, h', h.keepT hb (by decide)⟩)))))))
    · exact .inr (.inr (.inr (.inr (.inr (.inr (.inr (.inr (.inl ⟨g, p, c, h1, hS (by decide) h2, h.keepT hb (by decide)⟩))))))))
    · exact .inr (.inr (.inr (.inr (.inr (.inr (.inr (.inr (.inr (.inl ⟨g, v0, v1, h', h.keepT hb (by decide)⟩)))))))))
    · exact .inr (.inr (.inr (.inr (.inr (.inr (.inr (.inr (.inr (.inr (.inl ⟨g, p, c, pc, cc, h1, h2, hS (by decide) h3, hS (by decide) h4, h.keepT hb (by decide)⟩))))))))))
    · exact .inr (.inr (.inr (.inr (.inr (.inr (.inr (.inr (.inr (.inr (.inr (.inl ⟨g, v0, v1, h', h.keepT hb (by decide)⟩)))))))))))
    · exact .inr (.inr (.inr (.inr (.inr (.inr (.inr (.inr (.inr (.inr (.inr (.inr (.inl ⟨g, v0, h', h.keepT hb (by decide)⟩))))))))))))
    · exact .inr (.inr (.inr (.inr (.inr (.inr (.inr (.inr (.inr (.inr (.inr (.inr (.inr ⟨g, v0, h', h.keepT hb (by decide)⟩))))))))))))
theorem run_results2 {P : Program} {w : World} {fn : Func} {tmps : Array Value} {p T b p2 T2 b2 : Nat} {v v2 : Value} (hf : fn.results = #[.cell p T, .cell p2 T2]) (hp : tmps.getD p undef = .pointer (some ⟨b, 0, none⟩)) (hp2 : tmps.getD p2 undef = .pointer (some ⟨b2, 0, none⟩)) (hl : (loadVar T ⟨b, 0, none⟩).run P w = .ok v w) (hl2 : (loadVar T2 ⟨b2, 0, none⟩).run P w = .ok v2 w) : (results fn tmps).run P w = .ok (.tuple #[v, v2]) w := by
  have hp' : tmps[p]?.getD undef = .pointer (some ⟨b, 0, none⟩) := by simpa using hp
  have hp2' : tmps[p2]?.getD undef = .pointer (some ⟨b2, 0, none⟩) := by simpa using hp2
  simp [results, hf, hp', hp2', asAddr, hl, hl2]
theorem Gr.swap {sz n cap : Nat} {oid : Option Nat} {xs xs' sp : List Value} (h : Gr sz oid n cap xs sp) (e : xs'.length = xs.length) : Gr sz oid n cap xs' sp := ⟨by rw [e]; exact h.len, by rw [e]; exact h.all, h.le, h.max, h.nil⟩
theorem SeenAt.keepT {w w' : World} {c : Int} {h : NH} {v : Value} (hk : KeepT w w') (hs : SeenAt w c h v) : SeenAt w' c h v := by
  obtain ⟨k, b, lo, hi, e, h1, h2, h4, h3⟩ := hs
  exact ⟨k, b, lo, hi, e, h1, h2, h4, h3.keepT hk⟩
theorem St.keepT {B : Nat} {w0 w : World} {L : Rws} (h : St B ⟨[29, 31, 36], []⟩ w0 w L) : KeepT w0 w := fun i cs t fr hb ht => h.kp.typ i cs t fr hb ht List.not_mem_nil
end Go.Proofs.YtpajcfkldnbpfaaGreatDoor
namespace Go.Proofs.YtpajcfkldnbpfaaGreatDoor
open Go.RowKit
def SomeBol (w : World) (e : Ending) (w' : World) : Prop := ∃ b : Bool, e = .returned (.bool b) ∧ Below w.heap.size w w'
set_option maxRecDepth 100000 in
set_option maxHeartbeats 1000000 in
theorem fits1_any (h : TH) (p : Option Addr) (n c : Nat) (w0 : World) (hi : TIn h) : Calls Tryz.prog 5 #[tval h (.slice p n c)] w0 (SomeBol w0) := by
  have hst := St.nil w0.heap.size ⟨[], []⟩ w0 (Nat.le_refl _)
  unfold tval
  have hi1 := hi.1
  have hi2 := hi.2.1
  have hi3 := hi.2.2
  go_enter Tryz.func5, Tryz.ntmps5
  go_upto_region 3 with ((first | ((with_reducible refine at_load ?_); first | refine X1 hst ?_ | refine XW hst ?_) | ((with_reducible refine at_store ?_); (first | refine Y1 hst ?_ | refine YW hst ?_); clear hst; intro w hst) | ((first | ((with_reducible refine at_alloc ?_); refine ZP hst ?_) | ((with_reducible refine at_box ?_); refine ZP hst ?_) | ((with_reducible refine at_bslice ?_); refine ZS hst ?_)); clear hst; (intro b0 w hb0 hst))))
  · exact ret_tmp rfl rfl rfl ⟨_, rfl, hst.kp.below⟩
  go_upto_region 5 with ((first | ((with_reducible refine at_load ?_); first | refine X1 hst ?_ | refine XW hst ?_) | ((with_reducible refine at_store ?_); (first | refine Y1 hst ?_ | refine YW hst ?_); clear hst; intro w hst) | ((first | ((with_reducible refine at_alloc ?_); refine ZP hst ?_) | ((with_reducible refine at_box ?_); refine ZP hst ?_) | ((with_reducible refine at_bslice ?_); refine ZS hst ?_)); clear hst; (intro b0 w hb0 hst))))
  · exact ret_tmp rfl rfl rfl ⟨_, rfl, hst.kp.below⟩
  go_upto_region 7 with ((first | ((with_reducible refine at_load ?_); first | refine X1 hst ?_ | refine XW hst ?_) | ((with_reducible refine at_store ?_); (first | refine Y1 hst ?_ | refine YW hst ?_); clear hst; intro w hst) | ((first | ((with_reducible refine at_alloc ?_); refine ZP hst ?_) | ((with_reducible refine at_box ?_); refine ZP hst ?_) | ((with_reducible refine at_bslice ?_); refine ZS hst ?_)); clear hst; (intro b0 w hb0 hst))))
  · exact ret_tmp rfl rfl rfl ⟨_, rfl, hst.kp.below⟩
  go_wp2_with ((first | ((with_reducible refine at_load ?_); first | refine X1 hst ?_ | refine XW hst ?_) | ((with_reducible refine at_store ?_); (first | refine Y1 hst ?_ | refine YW hst ?_); clear hst; intro w hst) | ((first | ((with_reducible refine at_alloc ?_); refine ZP hst ?_) | ((with_reducible refine at_box ?_); refine ZP hst ?_) | ((with_reducible refine at_bslice ?_); refine ZS hst ?_)); clear hst; (intro b0 w hb0 hst))))
  · exact ret_tmp rfl rfl rfl ⟨_, rfl, hst.kp.below⟩
  · exact ret_tmp rfl rfl rfl ⟨_, rfl, hst.kp.below⟩
section
variable {P : Program} {ops : Array Oper} {rest : List Oper} {Q : Exit → Act → World → Prop} {a : Act} {w : World}
end
end Go.Proofs.YtpajcfkldnbpfaaGreatDoor
namespace Go.Proofs.YtpajcfkldnbpfaaGreatDoor
open Go.RowKit
section
variable {H : Type} {enc : TypeId × Value → H}
def Opened (W : World) (cs : List Value) : Prop := ∃ (h : TH) (k : F TH) (p : Option Addr) (c : Nat), cs = TS.C h (.slice p k.len c) ∧ k.len ≤ c ∧ Sl TS (fun b _ => b < W.heap.size) W p k ∧ TIn h ∧ FIn k
theorem weightsAll_mem {P : Program} {e : TypeId} : ∀ {ds : List (DataW H)} {i : Nat} {d : DataW H}, ds[i]? = some d → ∀ n ∈ d.weights P e, n ∈ DataW.weightsAll P e ds
  | [], _, _, h, _, _ => by simp at h
  | d0 :: ds, 0, d, h, n, hn => by
    simp only [List.getElem?_cons_zero, Option.some.injEq] at h
    subst h
    simp only [DataW.weightsAll, List.mem_append]
    exact .inl hn
  | d0 :: ds, i + 1, d, h, n, hn => by
    simp only [List.getElem?_cons_succ] at h
    simp only [DataW.weightsAll, List.mem_append]
    exact .inr (weightsAll_mem h n hn)
theorem addr_plain (b o k : Nat) : (⟨b, o, none⟩ : Addr).add k = ⟨b, o + k, none⟩ := by
  cases k with
  | zero => rfl
  | succ k => rfl
theorem open_row {W : World} {b : Nat} {cs : Array Value} {t : TypeId} {fr : Nat × Nat} {o len : Nat} (hb : W.heap[b]? = some (.cells cs t fr)) (hs : ∀ i, i < len → ∃ l, l.length = 6 ∧ (∀ j, j < 6 → W.cell? ⟨b, o + i * 6 + j, none⟩ = l[j]?) ∧ Opened W l) : ∀ r : Nat, r ≤ len → ∃ f : F TH, f.len = r ∧ Row TS (fun b _ => b < W.heap.size) W (cs.toList.drop (o + (len - r) * 6)) f ∧ f.all (fun h k => TIn h ∧ k.len ≤ 140737488355328) := by
  intro r
  induction r with
  | zero => intro _; exact ⟨.nil, rfl, trivial, trivial⟩
  | succ r ih =>
    intro hr
    obtain ⟨f, hfl, hrow, hall⟩ := ih (by omega)
    obtain ⟨l, hl, hc, h, k, p, c, rfl, hkc, hsl, hti, hfi⟩ := hs (len - (r + 1)) (by omega)
    refine ⟨.cons h k f, by simp [F.len, hfl], ?_, ⟨hti, hfi.1⟩, hfi.2, hall⟩
    refine ⟨p, c, cs.toList.drop (o + (len - r) * 6), ?_, hkc, hsl, hrow⟩
    apply List.ext_getElem?
    intro j
    by_cases hj : j < 6
    · have h1 := hc j hj
      rw [List.getElem?_append_left (by rw [hl]; exact hj), List.getElem?_drop, ← h1]
      simp [World.cell?, hb]
    · rw [List.getElem?_append_right (by rw [hl]; omega), hl, List.getElem?_drop, List.getElem?_drop]
      congr 1
      omega
set_option maxRecDepth 100000 in
theorem open_tree {W : World} : ∀ (n : Nat) (cs : List Value) (x : DataW H × List MemPlace), DataW.trod enc Tryz.prog W 0 (fun _ => true) true n 24 cs = some x → (∀ m ∈ x.1.weights Tryz.prog 24, m ≤ reachBytes) → Opened W cs := by
  intro n
  induction n using Nat.strongRecOn with
  | _ n ih =>
    intro cs x hx hw
    obtain ⟨xs, n1, rfl, rfl, hcl, hxl, hf⟩ := DataW.trod_struct Tryz.underlying24 hx
    have c24 : Tryz.prog.cellsOf 24 = 6 := by kernel_rfl
    have c3 : Tryz.prog.cellsOf 3 = 1 := by kernel_rfl
    have c9 : Tryz.prog.cellsOf 9 = 1 := by kernel_rfl
    have c22 : Tryz.prog.cellsOf 22 = 1 := by kernel_rfl
    have b24 : Tryz.prog.bytesOf 24 = 88 := by kernel_rfl
    rw [c24] at hcl
    simp at hxl
    match cs, hcl with
    | [v0, v1, v2, v3, v4, v5], _ =>
      match xs, hxl with
      | [x0, x1, x2, x3, x4, x5], _ =>
        have h0 := hf 0 _ rfl
        have h1 := hf 1 _ rfl
        have h2 := hf 2 _ rfl
        have h3 := hf 3 _ rfl
        have h4 := hf 4 _ rfl
        have h5 := hf 5 _ rfl
        simp [c3, c9, c22] at h0 h1 h2 h3 h4 h5
        obtain ⟨i0, e0, e0', _⟩ := DataW.trod_int Tryz.underlying3 h0
        obtain ⟨s1, e1, e1', _⟩ := DataW.trod_string Tryz.underlying9 h1
        obtain ⟨s2, e2, e2', _⟩ := DataW.trod_string Tryz.underlying9 h2
        obtain ⟨s3, e3, e3', _⟩ := DataW.trod_string Tryz.underlying9 h3
        obtain ⟨i4, e4, e4', _⟩ := DataW.trod_int Tryz.underlying3 h4
        subst e0' e1' e2' e3' e4'
        simp at e0 e1 e2 e3 e4
        subst e0 e1 e2 e3 e4
        have hr : reachBytes < 140737488355328 := reachBytes_lt
        simp [DataW.weights, Tryz.underlying24, DataW.weightsEach] at hw
        have hT : TIn ⟨i0, s1, s2, s3, i4⟩ := by
          obtain ⟨a1, a2, a3, _⟩ := hw
          refine ⟨?_, ?_, ?_⟩ <;> simp <;> omega
        rcases DataW.trod_slice Tryz.underlying22 h5 with ⟨e5, -⟩ | ⟨a, len, cap, elems, rest, m, rfl, e5, rfl, -, hlc, -, hel, hat, -, -⟩
        · simp at e5
          subst e5
          exact ⟨⟨i0, s1, s2, s3, i4⟩, .nil, none, 0, rfl, Nat.le_refl _, .inl rfl, hT, ⟨Nat.zero_le _, trivial⟩⟩
        · simp at e5
          subst e5
          rw [c24] at hat
          have hlen : len ≤ 140737488355328 := by
            have := hw.2.2.2
            simp [DataW.weights, Tryz.underlying22, b24] at this
            have := this.1
            omega
          by_cases h0 : len = 0
          · subst h0
            exact ⟨⟨i0, s1, s2, s3, i4⟩, .nil, some a, cap, rfl, Nat.zero_le _, .inl rfl, hT, ⟨Nat.zero_le _, trivial⟩⟩
          · have hc0 : ∃ v, W.cell? a = some v := by
              have h1 := hat 0 (by omega)
              rw [List.getElem?_eq_getElem (by omega : 0 < elems.length), Option.bind_eq_some_iff] at h1
              obtain ⟨l, hl, ht⟩ := h1
              obtain ⟨-, hl6, hlc⟩ := World.cells?_some hl
              have h2 := hlc 0 (by omega)
              rw [List.getElem?_eq_getElem (by omega : 0 < l.length)] at h2
              exact ⟨_, by simpa [Addr.add] using h2⟩
            obtain ⟨v0, hc0⟩ := hc0
            have hsp := World.cell?_spot hc0
            obtain ⟨b, o, sp⟩ := a
            simp only at hsp
            subst hsp
            have hbl : ∃ cs t fr, W.heap[b]? = some (.cells cs t fr) := by
              simp only [World.cell?] at hc0
              split at hc0
              · exact ⟨_, _, _, ‹_›⟩
              · cases hc0
            obtain ⟨cs, t, fr, hb⟩ := hbl
            have hs2 : ∀ i, i < len → ∃ l, l.length = 6 ∧ (∀ j, j < 6 → W.cell? ⟨b, o + i * 6 + j, none⟩ = l[j]?) ∧ Opened W l := fun i hi => by
              have h1 := hat i hi
              have hi2 : i < elems.length := by omega
              rw [List.getElem?_eq_getElem hi2, Option.bind_eq_some_iff] at h1
              obtain ⟨l, hl, ht⟩ := h1
              obtain ⟨-, hl6, hlc⟩ := World.cells?_some hl
              refine ⟨l, hl6, fun j hj => ?_, ih m (by omega) l _ ht fun n hn => ?_⟩
              · have h3 := hlc j hj
                rw [addr_plain, addr_plain] at h3
                exact h3
              · have := hw.2.2.2
                simp [DataW.weights, Tryz.underlying22] at this
                refine this.2 n (.inl (weightsAll_mem (i := i) (d := (elems[i]).1) ?_ n hn))
                rw [List.getElem?_map, List.getElem?_eq_getElem hi2]
                rfl
            obtain ⟨f, hfl, hrow, hall⟩ := open_row hb hs2 len (Nat.le_refl _)
            have hlt : b < W.heap.size := by
              rcases Nat.lt_or_ge b W.heap.size with h | h
              · exact h
              · rw [Array.getElem?_eq_none h] at hb; cases hb
            refine ⟨⟨i0, s1, s2, s3, i4⟩, f, some ⟨b, o, none⟩, cap, by rw [hfl]; rfl, by rw [hfl]; assumption, .inr ⟨b, o, cs, t, fr, rfl, hb, hlt, ?_⟩, hT, ⟨by rw [hfl]; exact hlen, hall⟩⟩
            simpa using hrow
end
end Go.Proofs.YtpajcfkldnbpfaaGreatDoor
