/- trLeft, given Left. -/
import Derived.Test.YtpajcfkldnbpfaaGreatDoorV26
set_option linter.unusedSimpArgs false
set_option linter.unusedVariables false
namespace Go.Proofs.YtpajcfkldnbpfaaGreatDoor
open Go.RowKit
def LeftR (s : ByteArray) (w : World) (e : Ending) (w' : World) : Prop := ∃ b : Bool, e = .returned (.bool b) ∧ (s.data.toList.head? = some 43 → b = true) ∧ Below w.heap.size w w'
def LeftC (name : ByteArray) : Prop := ∀ s : ByteArray, s.size ≤ 40 → PlainOk s → ∀ w : World, Tabs w → Calls Tryz.prog 15 #[.string name, .string s] w (LeftR s w)
def TrL (h : TH) (k : F TH) (w : World) (e : Ending) (w' : World) : Prop := ∃ b : Bool, e = .returned (.bool b) ∧ (b = false → NoPlus h k ∧ k.all NoPlus) ∧ Below w.heap.size w w'
theorem F.all_of_get {H : Type} {p : H → F H → Prop} : ∀ {f : F H}, (∀ i x kk, f.get i = some (x, kk) → p x kk ∧ kk.all p) → f.all p := by
  intro f
  induction f with
  | nil => intro _; trivial
  | cons h k r ihk ihr =>
    intro hg
    obtain ⟨h1, h2⟩ := hg 0 h k rfl
    exact ⟨h1, h2, ihr fun i x kk hi => hg (i + 1) x kk hi⟩
set_option maxRecDepth 100000 in
set_option maxHeartbeats 2000000 in
theorem trLeft_any (name : ByteArray) (hL : LeftC name) : ∀ (s : Nat) (h : TH) (k : F TH) (A : Nat → Nat → Prop) (p : Option Addr) (c : Nat) (w0 : World), k.size < s → k.size ≤ 1000 → Sl TS A w0 p k → NodeOK h k → k.all NodeOK → Tabs w0 → Calls Tryz.prog 7 #[.string name, tval h (.slice p k.len c)] w0 (TrL h k w0) := by
  intro s
  induction s with
  | zero => intro h k A p c w0 hs; exact absurd hs (Nat.not_lt_zero _)
  | succ s ih =>
    intro h k A p c w0 hs hsz hsl hok hall hT
    have hkl := F.len_le_size k
    have HS := Lib.hid (And.intro hsl (And.intro ih (And.intro hok (And.intro hall (And.intro hT hL)))))
    clear hsl ih hok hall hT
    have hst := St.nil w0.heap.size ⟨[], []⟩ w0 (Nat.le_refl _)
    obtain ⟨kd, tv, ta, tt, sty⟩ := h
    unfold tval
    go_enter Tryz.func7, Tryz.ntmps7
    go_upto_region 1 with ((first | ((with_reducible refine at_load ?_); first | refine X1 hst ?_ | refine XW hst ?_) | ((with_reducible refine at_store ?_); (first | refine Y1 hst ?_ | refine YW hst ?_); clear hst; intro w hst) | ((first | ((with_reducible refine at_alloc ?_); refine ZP hst ?_) | ((with_reducible refine at_box ?_); refine ZP hst ?_) | ((with_reducible refine at_bslice ?_); refine ZS hst ?_)); clear hst; (first | ((fail_if_success have := b0); intro b0 w hb0 hst) | (intro b1 w hb1 hst)))))
    have c0 := hst.cell (b := b0) (off := 0) (by (repeat' (first | exact List.Mem.head _ | apply List.Mem.tail)); done) rfl
    have c1 := hst.cell (b := b0) (off := 1) (by (repeat' (first | exact List.Mem.head _ | apply List.Mem.tail)); done) rfl
    have c4 := hst.cell (b := b0) (off := 4) (by (repeat' (first | exact List.Mem.head _ | apply List.Mem.tail)); done) rfl
    go_cut [20] (fun y wx => ∃ b : Bool, y = .bool b ∧ Hid (b = false → NoPlus ⟨kd, tv, ta, tt, sty⟩ k) ∧ St w0.heap.size ⟨[], []⟩ w0 wx [(some b0, [.int .i64 kd, .string tv, .string ta, .string tt, .int .i64 sty, .slice p k.len c], 24)])
    case first =>
      by_cases h1 : kd = 1
      · subst h1
        by_cases h2 : sty = 1
        · subst h2
          go_wp2_with fail
          refine (HS.out.2.2.2.2.2 tv HS.out.2.2.1.2.2.1 ?_ _ (HS.out.2.2.2.2.1.below hst.kp.below)).mono ?_
          · rcases HS.out.2.2.1.2.2.2 with hk | hk | ⟨hk, _⟩ | ⟨hk, _⟩
            · exact hk.2.2.2.2.2 rfl
            · simp only at hk; omega
            · simp only at hk; omega
            · simp only at hk; omega
          rintro e w1 ⟨b, rfl, hb43, hb⟩
          replace hst := hst.below hb
          have H43 := Lib.hid hb43
          clear hb hb43 c0 c1 c4
          go_wp2_with fail
          go_meet
          case rel => exact ⟨b, rfl, Lib.hid (fun e _ _ e2 => by rw [H43.out e2] at e; cases e), hst⟩
        · go_wp2_with fail
          go_meet
          case rel => exact ⟨false, rfl, Lib.hid (fun _ _ e2 => absurd e2 h2), hst⟩
      · go_wp2_with fail
        go_meet
        case rel => exact ⟨false, rfl, Lib.hid (fun _ e1 => absurd e1 h1), hst⟩
    case rest =>
    clear hst c0 c1 c4
    obtain ⟨b, rfl, HN, hst⟩ := hcut
    cases b
    · go_wp2_with ((first | ((with_reducible refine at_load ?_); first | refine X1 hst ?_ | refine XW hst ?_) | ((with_reducible refine at_store ?_); (first | refine Y1 hst ?_ | refine YW hst ?_); clear hst; intro w hst)))
      have HL := Lib.hid hst
      clear hst
      go_loopw [24] (fun i wx => ∃ m : Nat, i = .int .i64 m ∧ m ≤ k.len ∧ Hid ((∀ i x kk, i < m → k.get i = some (x, kk) → NoPlus x kk ∧ kk.all NoPlus) ∧ St w0.heap.size ⟨[], []⟩ w0 wx [])) (fun i _ => k.len - (intOf i).toNat)
      case atStart => exact ⟨0, rfl, Nat.zero_le _, Lib.hid ⟨fun i x kk hi => absurd hi (Nat.not_lt_zero _), HL.out.sub (List.nil_sublist _)⟩⟩
      case round =>
        obtain ⟨m, rfl, hmk, HI⟩ := hrel
        by_cases hm : (m : Int) < k.len
        · obtain ⟨x, kk, hg⟩ := F.get_lt (f := k) (i := m) (by omega)
          obtain ⟨pb', po, q, capq, tq, rfl, hcap, hslq, -, hlt, hcc⟩ := Sl.at2 HS.out.1 hg
          have hlow := HI.out.2.kp.low pb' hlt
          have hcell : ∀ (j : Nat) (v : Value), ([.int .i64 x.kind, .string x.v, .string x.a, .string x.t, .int .i64 x.st, .slice q kk.len capq] : List Value)[j]? = some v → wr.cell? ⟨pb', po + m * 6 + j, none⟩ = some v := fun j v hv => by
            have h1 := hcc j v hv
            simp only [World.cell?] at h1 ⊢
            rw [hlow]
            exact h1
          have hgs := F.size_get hg
          obtain ⟨ho1, ho2⟩ := F.all_get HS.out.2.2.2.1 hg
          have HC := Lib.hid (And.intro hcell (And.intro hslq (And.intro hg (And.intro ho1 ho2))))
          clear hcell hcap hslq hlt hcc hlow ho1 ho2 hg
          have hst := HI.out.2
          go_wp2_with (first | ((with_reducible refine at_load ?_); refine wl_ldc (vs := [.int .i64 x.kind, .string x.v, .string x.a, .string x.t, .int .i64 x.st, .slice q kk.len capq]) rfl rfl rfl HC.out.1 (by exact agg_of rfl rfl) ?_) | (first | ((with_reducible refine at_load ?_); first | refine X1 hst ?_ | refine XW hst ?_) | ((with_reducible refine at_store ?_); (first | refine Y1 hst ?_ | refine YW hst ?_); clear hst; intro w hst) | ((first | ((with_reducible refine at_alloc ?_); refine ZP hst ?_) | ((with_reducible refine at_box ?_); refine ZP hst ?_) | ((with_reducible refine at_bslice ?_); refine ZS hst ?_)); clear hst; (first | ((fail_if_success have := b0); intro b0 w hb0 hst) | (intro b1 w hb1 hst)))))
          refine (HS.out.2.1 x kk A q capq _ (by omega) (by omega) (HC.out.2.1.lt hst.kp.below) HC.out.2.2.2.1 HC.out.2.2.2.2 (HS.out.2.2.2.2.1.below hst.kp.below)).mono ?_
          rintro e w3 ⟨b, rfl, hbn, hb⟩
          replace hst := hst.below hb
          have HBN := Lib.hid hbn
          clear hb hbn
          cases b
          · go_wp2_with fail
            go_round
            case rel =>
              refine ⟨m + 1, by rw [show (m : Int) + 1 = ((m + 1 : Nat) : Int) by omega], by omega, Lib.hid ⟨fun i y ky hi hgi => ?_, hst.sub (List.nil_sublist _)⟩⟩
              by_cases e : i = m
              · subst e
                have h7 := HC.out.2.2.1
                rw [h7] at hgi
                cases hgi
                exact HBN.out (by simp)
              · exact HI.out.1 i y ky (by omega) hgi
            case measure => simp [intOf]; omega
          · go_wp2_with fail
            exact ret_tmp rfl rfl rfl ⟨true, rfl, fun e => (by cases e), hst.kp.below⟩
        · go_wp2_with fail
          refine ret_tmp rfl rfl rfl ⟨false, rfl, fun _ => ⟨HN.out (by simp), F.all_of_get fun i x kk hg => HI.out.1 i x kk (by have := F.lt_of_get hg; omega) hg⟩, HI.out.2.kp.below⟩
    · go_wp2_with fail
      exact ret_tmp rfl rfl rfl ⟨true, rfl, fun e => (by cases e), hst.kp.below⟩
end Go.Proofs.YtpajcfkldnbpfaaGreatDoor
