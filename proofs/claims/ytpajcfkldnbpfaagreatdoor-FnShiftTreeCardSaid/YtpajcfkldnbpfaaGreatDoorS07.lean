/- AddColumn of the nodes with many kids: what is turned so far; all nodes. AddColumn of all nodes. -/
import Derived.Test.YtpajcfkldnbpfaaGreatDoorS06
set_option linter.unusedSimpArgs false
set_option linter.unusedVariables false
namespace Go.Proofs.YtpajcfkldnbpfaaGreatDoor
open Go.RowKit
theorem AstN.cons1 {w : World} {c : Int} {h : NH} {k r : F NH} {b lo mid hi : Nat} {bs : List Nat} (h1 : AstN w c lo mid (.cons h k .nil) [b]) (h2 : AstN w c mid hi r bs) : AstN w c lo hi (.cons h k r) (b :: bs) := by
  obtain ⟨b', bs2, ba, tk, pb, m1, mid2, kb, e, hl, hm, ht, hba, hn, hk, hr⟩ := h1
  cases e
  exact ⟨b, bs, ba, tk, pb, m1, mid2, kb, rfl, hl, hm, ht, hba, hn, hk, AstN.widen hr.2 (Nat.le_refl _) h2⟩
def AstM (w : World) (d : Int) (hi : Nat) : Nat → Nat → F NH → List Nat → Prop
  | 0, lo, f, bs => AstN w 0 lo hi f bs
  | _ + 1, lo, .nil, bs => bs = [] ∧ lo ≤ hi
  | m + 1, lo, .cons h k r, bs => ∃ b bs' mid, bs = b :: bs' ∧ AstN w d lo mid (.cons h k .nil) [b] ∧ AstM w d hi m mid r bs'
theorem AstM.step {w : World} {d : Int} {hi : Nat} {x : NH} {kx : F NH} : ∀ {m lo : Nat} {f : F NH} {bs : List Nat}, AstM w d hi m lo f bs → f.get m = some (x, kx) → ∃ c0 l r, bs[m]? = some c0 ∧ (ifs f bs)[m]? = some (nodeV x c0) ∧ lo ≤ l ∧ r ≤ hi ∧ AstN w 0 l r (.cons x kx .nil) [c0] ∧ ∀ w', Sh l r w w' → AstN w' d l r (.cons x kx .nil) [c0] → AstM w' d hi (m + 1) lo f bs := by
  intro m
  induction m with
  | zero =>
    intro lo f bs ha hg
    cases f with
    | nil => cases hg
    | cons h k r =>
      simp only [F.get, Option.some.injEq, Prod.mk.injEq] at hg
      obtain ⟨rfl, rfl⟩ := hg
      obtain ⟨b, bs', mid, rfl, hx, hr⟩ := AstN.head ha
      exact ⟨b, lo, mid, rfl, rfl, Nat.le_refl _, hr.lohi, hx, fun w' hs hx' => ⟨b, bs', mid, rfl, hx', hr.sh hs (.inl (Nat.le_refl _))⟩⟩
  | succ m ih =>
    intro lo f bs ha hg
    cases f with
    | nil => cases hg
    | cons h k r =>
      obtain ⟨b, bs', mid, rfl, hx, hr⟩ := ha
      obtain ⟨c0, l, rr, e1, e2, h1, h2, h3, h4⟩ := ih hr hg
      have := hx.lohi
      exact ⟨c0, l, rr, e1, e2, by omega, h2, h3, fun w' hs hx' => ⟨b, bs', mid, rfl, hx.sh hs (.inr h1), h4 w' hs hx'⟩⟩
theorem AstM.all {w : World} {d : Int} {hi : Nat} : ∀ {f : F NH} {lo : Nat} {bs : List Nat}, AstM w d hi f.len lo f bs → AstN w d lo hi f bs := by
  intro f
  induction f with
  | nil => intro lo bs h; exact h
  | cons h k r _ ihr =>
    rintro lo bs ⟨b, bs', mid, rfl, hx, hr⟩
    exact AstN.cons1 hx (ihr hr)
theorem tokAdd_nil (d : Int) (w0 : World) : Calls Tryz.prog 222 #[.pointer none, .int .i64 d] w0 fun e w' => e = .returned (.tuple #[]) ∧ w' = w0 := by
  go_enter Tryz.func222, Tryz.ntmps222
  go_wp2_with fail
  exact ret_none rfl rfl ⟨rfl, rfl⟩
def ManyI (d : Int) (h : NH) (k : F NH) (kb : List Nat) (tk pb m1 mid m : Nat) (w0 wx : World) : Prop := Sh pb mid w0 wx ∧ TokAt wx d h tk pb ∧ AstM wx d mid m m1 k kb
set_option maxRecDepth 100000 in
set_option maxHeartbeats 4000000 in
theorem add_14 (h : NH) (k : F NH) (kb : List Nat) (b ba tk pb m1 mid c cc : Nat) (p pc : Option Addr) (d : Int) (w0 : World) (hb : Blk w0 b 149 [ptr ba, ptr tk, .pointer none, .bool h.flow, .slice p kb.length c, .slice pc kb.length cc, .slice none 0 0, .pointer none]) (hp : SlV w0 55 p (ifs k kb)) (ht : TokAt w0 0 h tk pb) (h1 : 1 ≤ h.col) (h2 : h.col ≤ 200) (d0 : 0 ≤ d) (d1 : d ≤ 99) (hpb : pb < m1) (hx : AstN w0 0 m1 mid k kb) (hX : ∀ i x kx, k.get i = some (x, kx) → NOK x kx ∧ AddC x kx) (h13 : 14 = 11 → allTop (fun x => x.kind = 13) k) (hk1 : k.len ≤ 1000) : Calls Tryz.prog 317 #[ptr b, .int .i64 d] w0 (Add1R d h tk pb m1 mid k kb w0) := by
  (have hlen := hx.len; rw [hlen] at hb; have HT := Lib.hid (And.intro ht (And.intro h1 (And.intro h2 (And.intro d0 (And.intro d1 (And.intro hpb (And.intro hx (And.intro hb (And.intro hp (And.intro hX h13)))))))))); have c1 := hb.cell (off := 1) rfl; clear ht h1 h2 d0 d1 hpb hx hb hp hX hlen h13; go_enter Tryz.func317, Tryz.ntmps317; go_upto_region 1 with fail; (refine (tokAdd_any h tk pb d _ HT.out.1 HT.out.2.1 HT.out.2.2.1 HT.out.2.2.2.1 HT.out.2.2.2.2.1).mono ?_; rintro e w1 ⟨rfl, hs1, ht1⟩; have H1 := Lib.hid (And.intro hs1 ht1); clear hs1 ht1); go_upto_region 1 with fail; clear c1; have hm := HT.out.2.2.2.2.2.1; have hl := HT.out.2.2.2.2.2.2.1.lohi; have HM := Lib.hid (And.intro hm hl); clear hm hl; have c2 := (HT.out.2.2.2.2.2.2.2.1.sh H1.out.1 (by decide)).cell (off := 2) rfl; have c4 := (HT.out.2.2.2.2.2.2.2.1.sh H1.out.1 (by decide)).cell (off := 4) rfl; go_upto_region 2 with fail; refine (tokAdd_nil d _).mono ?_; rintro e w2 ⟨rfl, rfl⟩; go_wp2_with fail; clear c2 c4)
  (go_loopw [23] (fun i wx => ∃ m : Nat, i = .int .i64 m ∧ m ≤ k.len ∧ Hid (ManyI d h k kb tk pb m1 mid m w0 wx)) (fun i _ => k.len - (intOf i).toNat))
  case atStart => (exact ⟨0, rfl, Nat.zero_le _, Lib.hid ⟨H1.out.1.mono (Nat.le_refl _) (by have := HM.out; omega), H1.out.2, HT.out.2.2.2.2.2.2.1.sh H1.out.1 (.inl (by have := HM.out; omega))⟩⟩)
  case round =>
    obtain ⟨m, rfl, hmk, HL⟩ := hrel
    by_cases hm : (m : Int) < k.len
    · obtain ⟨x, kx, hg⟩ := F.get_lt (f := k) (i := m) (by omega)
      obtain ⟨c0, l, r, e1, e2, hl, hr, hax, hst⟩ := HL.out.2.2.step hg
      obtain ⟨hxok, hxc⟩ := HT.out.2.2.2.2.2.2.2.2.2.1 m x kx hg
      obtain ⟨gp, sp, rfl, hbg⟩ := (HT.out.2.2.2.2.2.2.2.2.1.sh HL.out.1 (by decide)).some (m := m) (List.getElem?_eq_some_iff.1 e2).1
      have hcell := hbg.cell (off := m) (by rw [List.getElem?_append_left (List.getElem?_eq_some_iff.1 e2).1]; exact e2)
      have HC := Lib.hid (hxc d c0 l r wr HT.out.2.2.2.1 HT.out.2.2.2.2.1 hax)
      have HK := Lib.hid (And.intro hxok.kinds (And.intro hl (And.intro hr hst)))
      clear e1 e2 hl hr hax hst hxok hxc hg hbg
      unfold nodeV at hcell
      go_upto_region 5 with fail
      clear hcell
      have hC := HC.out
      (rcases HK.out.1 with g | g | g | g | g | g | g | g | g | g | g | g | g | g)
      all_goals
        rw [g] at hC ⊢
        have HC2 := Lib.hid hC
        clear hC g
        simp only [tyOf, addF] at HC2 ⊢
        go_wp2_with fail
        refine HC2.out.mono ?_
        rintro e w2 ⟨rfl, h3, h4⟩
        have HR := Lib.hid (And.intro h3 h4)
        clear h3 h4
        go_wp2_with fail
        go_round
        case rel => (exact ⟨m + 1, by rw [show (m : Int) + 1 = ((m + 1 : Nat) : Int) by omega], by omega, Lib.hid ⟨HL.out.1.trans (HR.out.1.mono (by have := HM.out; have := HK.out.2.1; omega) HK.out.2.2.1), HL.out.2.1.sh HR.out.1 (.inl (by have := HM.out; have := HK.out.2.1; omega)), HK.out.2.2.2 _ HR.out.1 HR.out.2⟩⟩)
        case measure => simp [intOf]; omega
    · have e : m = k.len := by omega
      subst e
      go_wp2_with fail
      exact ret_none rfl rfl ⟨rfl, HL.out.1, HL.out.2.1, HL.out.2.2.all⟩
set_option maxRecDepth 100000 in
set_option maxHeartbeats 4000000 in
theorem add_11 (h : NH) (k : F NH) (kb : List Nat) (b ba tk pb m1 mid c cc : Nat) (p pc : Option Addr) (d : Int) (w0 : World) (hb : Blk w0 b 136 [ptr ba, ptr tk, .pointer none, .bool h.flow, .slice p kb.length c, .pointer none]) (hp : SlV w0 137 p (kb.map ptr)) (ht : TokAt w0 0 h tk pb) (h1 : 1 ≤ h.col) (h2 : h.col ≤ 200) (d0 : 0 ≤ d) (d1 : d ≤ 99) (hpb : pb < m1) (hx : AstN w0 0 m1 mid k kb) (hX : ∀ i x kx, k.get i = some (x, kx) → NOK x kx ∧ AddC x kx) (h13 : 11 = 11 → allTop (fun x => x.kind = 13) k) (hk1 : k.len ≤ 1000) : Calls Tryz.prog 299 #[ptr b, .int .i64 d] w0 (Add1R d h tk pb m1 mid k kb w0) := by
  (have hlen := hx.len; rw [hlen] at hb; have HT := Lib.hid (And.intro ht (And.intro h1 (And.intro h2 (And.intro d0 (And.intro d1 (And.intro hpb (And.intro hx (And.intro hb (And.intro hp (And.intro hX h13)))))))))); have c1 := hb.cell (off := 1) rfl; clear ht h1 h2 d0 d1 hpb hx hb hp hX hlen h13; go_enter Tryz.func299, Tryz.ntmps299; go_upto_region 1 with fail; (refine (tokAdd_any h tk pb d _ HT.out.1 HT.out.2.1 HT.out.2.2.1 HT.out.2.2.2.1 HT.out.2.2.2.2.1).mono ?_; rintro e w1 ⟨rfl, hs1, ht1⟩; have H1 := Lib.hid (And.intro hs1 ht1); clear hs1 ht1); go_upto_region 1 with fail; clear c1; have hm := HT.out.2.2.2.2.2.1; have hl := HT.out.2.2.2.2.2.2.1.lohi; have HM := Lib.hid (And.intro hm hl); clear hm hl; have c2 := (HT.out.2.2.2.2.2.2.2.1.sh H1.out.1 (by decide)).cell (off := 2) rfl; have c4 := (HT.out.2.2.2.2.2.2.2.1.sh H1.out.1 (by decide)).cell (off := 4) rfl; go_upto_region 2 with fail; refine (tokAdd_nil d _).mono ?_; rintro e w2 ⟨rfl, rfl⟩; go_wp2_with fail; clear c2 c4)
  (go_loopw [23] (fun i wx => ∃ m : Nat, i = .int .i64 m ∧ m ≤ k.len ∧ Hid (ManyI d h k kb tk pb m1 mid m w0 wx)) (fun i _ => k.len - (intOf i).toNat))
  case atStart => (exact ⟨0, rfl, Nat.zero_le _, Lib.hid ⟨H1.out.1.mono (Nat.le_refl _) (by have := HM.out; omega), H1.out.2, HT.out.2.2.2.2.2.2.1.sh H1.out.1 (.inl (by have := HM.out; omega))⟩⟩)
  case round =>
    obtain ⟨m, rfl, hmk, HL⟩ := hrel
    by_cases hm : (m : Int) < k.len
    · obtain ⟨x, kx, hg⟩ := F.get_lt (f := k) (i := m) (by omega)
      obtain ⟨c0, l, r, e1, e2, hl, hr, hax, hst⟩ := HL.out.2.2.step hg
      obtain ⟨hxok, hxc⟩ := HT.out.2.2.2.2.2.2.2.2.2.1 m x kx hg
      have hx13 := allTop_get (HT.out.2.2.2.2.2.2.2.2.2.2 (by first | trivial | rfl)) hg
      have e3 : (kb.map ptr)[m]? = some (ptr c0) := by rw [List.getElem?_map, e1]; rfl
      obtain ⟨gp, sp, rfl, hbg⟩ := (HT.out.2.2.2.2.2.2.2.2.1.sh HL.out.1 (by decide)).some (m := m) (List.getElem?_eq_some_iff.1 e3).1
      have hcell := hbg.cell (off := m) (by rw [List.getElem?_append_left (List.getElem?_eq_some_iff.1 e3).1]; exact e3)
      have hC := hxc d c0 l r wr HT.out.2.2.2.1 HT.out.2.2.2.2.1 hax
      rw [hx13] at hC
      simp only [addF] at hC
      have HC := Lib.hid hC
      have HK := Lib.hid (And.intro hx13 (And.intro hl (And.intro hr hst)))
      clear e1 e2 e3 hl hr hax hst hxok hxc hg hbg hC hx13
      go_wp2_with fail
      clear hcell
      refine HC.out.mono ?_
      rintro e w2 ⟨rfl, h3, h4⟩
      have HR := Lib.hid (And.intro h3 h4)
      clear h3 h4
      go_wp2_with fail
      go_round
      case rel => (exact ⟨m + 1, by rw [show (m : Int) + 1 = ((m + 1 : Nat) : Int) by omega], by omega, Lib.hid ⟨HL.out.1.trans (HR.out.1.mono (by have := HM.out; have := HK.out.2.1; omega) HK.out.2.2.1), HL.out.2.1.sh HR.out.1 (.inl (by have := HM.out; have := HK.out.2.1; omega)), HK.out.2.2.2 _ HR.out.1 HR.out.2⟩⟩)
      case measure => simp [intOf]; omega
    · have e : m = k.len := by omega
      subst e
      go_wp2_with fail
      exact ret_none rfl rfl ⟨rfl, HL.out.1, HL.out.2.1, HL.out.2.2.all⟩
end Go.Proofs.YtpajcfkldnbpfaaGreatDoor
namespace Go.Proofs.YtpajcfkldnbpfaaGreatDoor
open Go.RowKit
theorem add_all : ∀ (s : Nat) (h : NH) (k : F NH), k.size < s → k.size ≤ 900 → NOK h k → k.all NOK → AddC h k := by
  intro s
  induction s with
  | zero => intro h k hs; exact absurd hs (Nat.not_lt_zero _)
  | succ s ih =>
    intro h k hs hsz hok hall d b lo hi w d0 d1 ha
    have hX : ∀ i x kx, k.get i = some (x, kx) → NOK x kx ∧ AddC x kx := fun i x kx hg => by
      have h1 := F.size_get hg
      have h2 := F.all_get hall hg
      exact ⟨h2.1, ih x kx (by omega) (by omega) h2.1 h2.2⟩
    have hkl := F.len_le_size k
    obtain ⟨h1, h2, h3, hsh⟩ := hok
    have hlv := ha
    obtain ⟨b', bs', ba, tk, pb, m1, mid, kb, e, hlo, hm1, ht, hba, hn, hk, hr⟩ := ha
    cases e
    have hhi := hr.2
    have fin : ∀ e w', Add1R d h tk pb m1 mid k kb w e w' → AddR d h k b lo hi w e w' := by
      rintro e w' ⟨rfl, hs, ht', hk'⟩
      exact ⟨rfl, hs.mono hlo hhi, b, [], ba, tk, pb, m1, mid, kb, rfl, hlo, hm1, ht', hba.sh hs (by decide), hn.sh hs, hk', hr⟩
    rcases hsh with ⟨rfl, hl, hf⟩ | ⟨g, hf, a, rfl, ha8, hva⟩ | ⟨g, hv, h13⟩ | ⟨g, hv, a, b2, kb2, rfl, -, -⟩ | ⟨g, hv⟩ | ⟨g, hf, a, b2, kb2, rfl, -, -⟩ | ⟨g, hf, a, rfl, ha8, hva⟩ | ⟨g, hf, hv, a, kb2, rfl⟩
    · exact add_leaf h hl h1 h2 d b lo hi w d0 d1 hlv
    all_goals rw [g]
    · (rcases hn with ⟨g', hn⟩ | ⟨g', v, hn, h'⟩ | ⟨g', v, hn, h'⟩ | ⟨g', f, hn⟩ | ⟨g', f, hn, h'⟩ | ⟨g', h', hn⟩ | ⟨g', hn⟩ | ⟨g', k0, h', hn⟩ | ⟨g', p, c, hc1, hc2, hn⟩ | ⟨g', v0, v1, h', hn⟩ | ⟨g', p, c, pc, cc, hc1, hc2, hc3, hc4, hn⟩ | ⟨g', v0, v1, h', hn⟩ | ⟨g', v0, h', hn⟩ | ⟨g', v0, h', hn⟩; all_goals first | (exfalso; omega) | skip)
      subst h'
      exact (add_10 h a .nil b ba tk pb k0 m1 mid d w hn ht h1 h2 d0 d1 hm1 hk ha8 (hX 0 a .nil rfl).2).mono fin
    · (rcases hn with ⟨g', hn⟩ | ⟨g', v, hn, h'⟩ | ⟨g', v, hn, h'⟩ | ⟨g', f, hn⟩ | ⟨g', f, hn, h'⟩ | ⟨g', h', hn⟩ | ⟨g', hn⟩ | ⟨g', k0, h', hn⟩ | ⟨g', p, c, hc1, hc2, hn⟩ | ⟨g', v0, v1, h', hn⟩ | ⟨g', p, c, pc, cc, hc1, hc2, hc3, hc4, hn⟩ | ⟨g', v0, v1, h', hn⟩ | ⟨g', v0, h', hn⟩ | ⟨g', v0, h', hn⟩; all_goals first | (exfalso; omega) | skip)
      exact (add_11 h k kb b ba tk pb m1 mid c 0 p none d w hn hc2 ht h1 h2 d0 d1 hm1 hk hX (fun _ => h13) (by omega)).mono fin
    · (rcases hn with ⟨g', hn⟩ | ⟨g', v, hn, h'⟩ | ⟨g', v, hn, h'⟩ | ⟨g', f, hn⟩ | ⟨g', f, hn, h'⟩ | ⟨g', h', hn⟩ | ⟨g', hn⟩ | ⟨g', k0, h', hn⟩ | ⟨g', p, c, hc1, hc2, hn⟩ | ⟨g', v0, v1, h', hn⟩ | ⟨g', p, c, pc, cc, hc1, hc2, hc3, hc4, hn⟩ | ⟨g', v0, v1, h', hn⟩ | ⟨g', v0, h', hn⟩ | ⟨g', v0, h', hn⟩; all_goals first | (exfalso; omega) | skip)
      (obtain ⟨c0, r1, mm, rfl, hx, hy0⟩ := AstN.head hk; obtain ⟨c1, r2, mid2, rfl, hy, hz⟩ := AstN.head hy0; obtain ⟨rfl, hz2⟩ := hz; obtain ⟨rfl, rfl⟩ : nodeV a c0 = v0 ∧ nodeV b2 c1 = v1 := by (simp only [ifs, List.cons.injEq, and_true] at h'; exact h'))
      exact (add_13 h a b2 .nil kb2 b ba tk pb c0 c1 m1 mm mid d w hn ht h1 h2 d0 d1 hm1 hx (AstN.widen (Nat.le_refl _) hz2 hy) (hX 0 a .nil rfl).1 (hX 0 a .nil rfl).2 (hX 1 b2 kb2 rfl).1 (hX 1 b2 kb2 rfl).2).mono fin
    · (rcases hn with ⟨g', hn⟩ | ⟨g', v, hn, h'⟩ | ⟨g', v, hn, h'⟩ | ⟨g', f, hn⟩ | ⟨g', f, hn, h'⟩ | ⟨g', h', hn⟩ | ⟨g', hn⟩ | ⟨g', k0, h', hn⟩ | ⟨g', p, c, hc1, hc2, hn⟩ | ⟨g', v0, v1, h', hn⟩ | ⟨g', p, c, pc, cc, hc1, hc2, hc3, hc4, hn⟩ | ⟨g', v0, v1, h', hn⟩ | ⟨g', v0, h', hn⟩ | ⟨g', v0, h', hn⟩; all_goals first | (exfalso; omega) | skip)
      exact (add_14 h k kb b ba tk pb m1 mid c cc p pc d w hn hc3 ht h1 h2 d0 d1 hm1 hk hX (fun h => absurd h (by decide)) (by omega)).mono fin
    · (rcases hn with ⟨g', hn⟩ | ⟨g', v, hn, h'⟩ | ⟨g', v, hn, h'⟩ | ⟨g', f, hn⟩ | ⟨g', f, hn, h'⟩ | ⟨g', h', hn⟩ | ⟨g', hn⟩ | ⟨g', k0, h', hn⟩ | ⟨g', p, c, hc1, hc2, hn⟩ | ⟨g', v0, v1, h', hn⟩ | ⟨g', p, c, pc, cc, hc1, hc2, hc3, hc4, hn⟩ | ⟨g', v0, v1, h', hn⟩ | ⟨g', v0, h', hn⟩ | ⟨g', v0, h', hn⟩; all_goals first | (exfalso; omega) | skip)
      (obtain ⟨c0, r1, mm, rfl, hx, hy0⟩ := AstN.head hk; obtain ⟨c1, r2, mid2, rfl, hy, hz⟩ := AstN.head hy0; obtain ⟨rfl, hz2⟩ := hz; obtain ⟨rfl, rfl⟩ : nodeV a c0 = v0 ∧ nodeV b2 c1 = v1 := by (simp only [ifs, List.cons.injEq, and_true] at h'; exact h'))
      exact (add_16 h a b2 .nil kb2 b ba tk pb c0 c1 m1 mm mid d w hn ht h1 h2 d0 d1 hm1 hx (AstN.widen (Nat.le_refl _) hz2 hy) (hX 0 a .nil rfl).1 (hX 0 a .nil rfl).2 (hX 1 b2 kb2 rfl).1 (hX 1 b2 kb2 rfl).2).mono fin
    · (rcases hn with ⟨g', hn⟩ | ⟨g', v, hn, h'⟩ | ⟨g', v, hn, h'⟩ | ⟨g', f, hn⟩ | ⟨g', f, hn, h'⟩ | ⟨g', h', hn⟩ | ⟨g', hn⟩ | ⟨g', k0, h', hn⟩ | ⟨g', p, c, hc1, hc2, hn⟩ | ⟨g', v0, v1, h', hn⟩ | ⟨g', p, c, pc, cc, hc1, hc2, hc3, hc4, hn⟩ | ⟨g', v0, v1, h', hn⟩ | ⟨g', v0, h', hn⟩ | ⟨g', v0, h', hn⟩; all_goals first | (exfalso; omega) | skip)
      (obtain ⟨c0, r1, mm, rfl, hx, hz⟩ := AstN.head hk; obtain ⟨rfl, hz2⟩ := hz; obtain rfl : nodeV a c0 = v0 := by (simp only [ifs, List.cons.injEq, and_true] at h'; exact h'))
      exact (add_17 h a .nil b ba tk pb c0 m1 mid d w hn ht h1 h2 d0 d1 hm1 (AstN.widen (Nat.le_refl _) hz2 hx) ha8 (hX 0 a .nil rfl).2).mono fin
    · (rcases hn with ⟨g', hn⟩ | ⟨g', v, hn, h'⟩ | ⟨g', v, hn, h'⟩ | ⟨g', f, hn⟩ | ⟨g', f, hn, h'⟩ | ⟨g', h', hn⟩ | ⟨g', hn⟩ | ⟨g', k0, h', hn⟩ | ⟨g', p, c, hc1, hc2, hn⟩ | ⟨g', v0, v1, h', hn⟩ | ⟨g', p, c, pc, cc, hc1, hc2, hc3, hc4, hn⟩ | ⟨g', v0, v1, h', hn⟩ | ⟨g', v0, h', hn⟩ | ⟨g', v0, h', hn⟩; all_goals first | (exfalso; omega) | skip)
      (obtain ⟨c0, r1, mm, rfl, hx, hz⟩ := AstN.head hk; obtain ⟨rfl, hz2⟩ := hz; obtain rfl : nodeV a c0 = v0 := by (simp only [ifs, List.cons.injEq, and_true] at h'; exact h'))
      exact (add_19 h a kb2 b ba tk pb c0 m1 mid d w hn ht h1 h2 d0 d1 hm1 (AstN.widen (Nat.le_refl _) hz2 hx) (hX 0 a kb2 rfl).1 (hX 0 a kb2 rfl).2).mono fin
end Go.Proofs.YtpajcfkldnbpfaaGreatDoor
