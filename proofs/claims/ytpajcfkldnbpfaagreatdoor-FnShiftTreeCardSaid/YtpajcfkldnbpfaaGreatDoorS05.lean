/- AddColumn: what it turns. AddColumn of the leaves. AddColumn of the nodes with one kid. AddColumn of the nodes with one kid that is a string. -/
import Derived.Test.YtpajcfkldnbpfaaGreatDoorS03
set_option linter.unusedSimpArgs false
set_option linter.unusedVariables false
namespace Go.Proofs.YtpajcfkldnbpfaaGreatDoor
open Go.RowKit
structure Sh (lo hi : Nat) (w w' : World) : Prop where
  kp : Kp lo ⟨[186], []⟩ w w'
  top : ∀ (i : Nat) (cs : Array Value) (t : Nat) (fr : Nat × Nat), hi ≤ i → w.heap[i]? = some (.cells cs t fr) → w'.heap[i]? = some (.cells cs t fr)
theorem Sh.refl (lo hi : Nat) (w : World) : Sh lo hi w w := ⟨Kp.refl _ _ _, fun _ _ _ _ _ h => h⟩
theorem Sh.trans {lo hi : Nat} {a b c : World} (h : Sh lo hi a b) (k : Sh lo hi b c) : Sh lo hi a c := ⟨h.kp.trans k.kp, fun i cs t fr hi hb => k.top i cs t fr hi (h.top i cs t fr hi hb)⟩
theorem Sh.mono {lo hi lo' hi' : Nat} {a b : World} (h : Sh lo hi a b) (hl : lo' ≤ lo) (hh : hi ≤ hi') : Sh lo' hi' a b :=
  ⟨⟨h.kp.os, h.kp.tape, h.kp.output, h.kp.size, fun k hk => h.kp.low k (by omega), h.kp.typ⟩, fun i cs t fr hi hb => h.top i cs t fr (by omega) hb⟩
theorem Blk.sh {lo hi : Nat} {w w' : World} (hk : Sh lo hi w w') {b t : Nat} {l : List Value} (h : Blk w b t l) (ht : t ≠ 186) : Blk w' b t l := hk.kp.typ _ _ _ _ h (by simpa using ht) List.not_mem_nil
theorem Blk.shOut {lo hi : Nat} {w w' : World} (hk : Sh lo hi w w') {b t : Nat} {l : List Value} (h : Blk w b t l) (ho : b < lo ∨ hi ≤ b) : Blk w' b t l := by
  rcases ho with ho | ho
  · exact (hk.kp.low b ho).trans h
  · exact hk.top b _ _ _ ho h
theorem SlV.sh {lo hi : Nat} {w w' : World} (hk : Sh lo hi w w') {t : Nat} {p : Option Addr} {vs : List Value} (ht : t ≠ 186) (h : SlV w t p vs) : SlV w' t p vs := by
  rcases h with h | ⟨b, sp, h1, h2⟩
  · exact .inl h
  · exact .inr ⟨b, sp, h1, h2.sh hk ht⟩
theorem NodeAt.sh {lo hi : Nat} {w w' : World} (hb : Sh lo hi w w') {h : NH} {k : F NH} {ba tk b : Nat} {kb : List Nat} (hn : NodeAt w h k ba tk b kb) : NodeAt w' h k ba tk b kb := by
  rcases hn with ⟨g, h⟩ | ⟨g, v, h, h'⟩ | ⟨g, v, h, h'⟩ | ⟨g, f, h⟩ | ⟨g, f, h, h'⟩ | ⟨g, h', h⟩ | ⟨g, h⟩ | ⟨g, k0, h', h⟩ | ⟨g, p, c, h1, h2, h⟩ | ⟨g, v0, v1, h', h⟩ | ⟨g, p, c, pc, cc, h1, h2, h3, h4, h⟩ | ⟨g, v0, v1, h', h⟩ | ⟨g, v0, h', h⟩ | ⟨g, v0, h', h⟩
  · exact .inl ⟨g, h.sh hb (by decide)⟩
  · exact .inr (.inl ⟨g, v, h.sh hb (by decide), h'⟩)
  · exact .inr (.inr (.inl ⟨g, v, h.sh hb (by decide), h'⟩))
  · exact .inr (.inr (.inr (.inl ⟨g, f, h.sh hb (by decide)⟩)))
  · exact .inr (.inr (.inr (.inr (.inl ⟨g, f, h.sh hb (by decide), h'⟩))))
  · exact .inr (.inr (.inr (.inr (.inr (.inl ⟨g, h', h.sh hb (by decide)⟩)))))
  · exact .inr (.inr (.inr (.inr (.inr (.inr (.inl ⟨g, h.sh hb (by decide)⟩))))))
  · exact .inr (.inr (.inr (.inr (.inr (.inr (.inr (.inl ⟨g, k0, h', h.sh hb (by decide)⟩)))))))
  · exact .inr (.inr (.inr (.inr (.inr (.inr (.inr (.inr (.inl ⟨g, p, c, h1, h2.sh hb (by decide), h.sh hb (by decide)⟩))))))))
  · exact .inr (.inr (.inr (.inr (.inr (.inr (.inr (.inr (.inr (.inl ⟨g, v0, v1, h', h.sh hb (by decide)⟩)))))))))
  · exact .inr (.inr (.inr (.inr (.inr (.inr (.inr (.inr (.inr (.inr (.inl ⟨g, p, c, pc, cc, h1, h2, h3.sh hb (by decide), h4.sh hb (by decide), h.sh hb (by decide)⟩))))))))))
  · exact .inr (.inr (.inr (.inr (.inr (.inr (.inr (.inr (.inr (.inr (.inr (.inl ⟨g, v0, v1, h', h.sh hb (by decide)⟩)))))))))))
  · exact .inr (.inr (.inr (.inr (.inr (.inr (.inr (.inr (.inr (.inr (.inr (.inr (.inl ⟨g, v0, h', h.sh hb (by decide)⟩))))))))))))
  · exact .inr (.inr (.inr (.inr (.inr (.inr (.inr (.inr (.inr (.inr (.inr (.inr (.inr ⟨g, v0, h', h.sh hb (by decide)⟩))))))))))))
theorem TokAt.sh {lo hi : Nat} {w w' : World} (hb : Sh lo hi w w') {c : Int} {h : NH} {tk pb : Nat} (ht : TokAt w c h tk pb) (ho : pb < lo ∨ hi ≤ pb) : TokAt w' c h tk pb := ⟨ht.1.sh hb (by decide), ht.2.shOut hb ho⟩
theorem AstN.sh {l2 h2 : Nat} {w w' : World} {c : Int} (hb : Sh l2 h2 w w') : ∀ {f : F NH} {lo hi : Nat} {bs : List Nat}, (h2 ≤ lo ∨ hi ≤ l2) → AstN w c lo hi f bs → AstN w' c lo hi f bs := by
  intro f
  induction f with
  | nil => intro lo hi bs _ h; exact h
  | cons h k r ihk ihr =>
    rintro lo hi bs ho ⟨b, bs', ba, tk, pb, m1, mid, kb, e, h1, h2, ht, hba, hn, hk, hr⟩
    have e1 := hk.lohi
    have e2 := hr.lohi
    exact ⟨b, bs', ba, tk, pb, m1, mid, kb, e, h1, h2, ht.sh hb (by omega), hba.sh hb (by decide), hn.sh hb, ihk (by omega) hk, ihr (by omega) hr⟩
def TokR (d : Int) (h : NH) (tk pb : Nat) (w : World) (e : Ending) (w' : World) : Prop := e = .returned (.tuple #[]) ∧ Sh pb (pb + 1) w w' ∧ TokAt w' d h tk pb
set_option maxRecDepth 100000 in
theorem tokAdd_any (h : NH) (tk pb : Nat) (d : Int) (w0 : World) (ht : TokAt w0 0 h tk pb) (h1 : 1 ≤ h.col) (h2 : h.col ≤ 200) (d0 : 0 ≤ d) (d1 : d ≤ 99) : Calls Tryz.prog 222 #[ptr tk, .int .i64 d] w0 (TokR d h tk pb w0) := by
  have hst : St pb ⟨[], [pb]⟩ w0 w0 [(some pb, [.int .i64 1, .int .i64 (h.col + 0), .int .i64 h.off, .int .i64 0, .int .i64 0], 186)] :=
    ⟨Kp.refl _ _ _, Nat.le_of_lt ht.2.lt, by rintro b l t hm; cases List.mem_singleton.1 hm; exact ⟨ht.2, .inr ⟨Nat.le_refl _, .inr (List.mem_singleton.2 rfl)⟩⟩, List.pairwise_singleton _ _⟩
  have c6 := ht.1.cell (off := 6) rfl
  have HT := Lib.hid ht
  clear ht
  go_enter Tryz.func222, Tryz.ntmps222
  go_wp2_with ((first | ((with_reducible refine at_load ?_); first | refine X1 hst ?_ | refine XW hst ?_) | ((with_reducible refine at_store ?_); (first | refine Y1 hst ?_ | refine YW hst ?_); clear hst; intro w hst)))
  have e1 : wrap64 (h.col + 0 + d) = h.col + d := by unfold wrap64; omega
  have hb := hst.blk (b := pb) (by (repeat' (first | exact List.Mem.head _ | apply List.Mem.tail)); done)
  refine ret_none rfl rfl ⟨rfl, ⟨⟨hst.kp.os, hst.kp.tape, hst.kp.output, hst.kp.size, hst.kp.low, fun k cs t fr h1 h2 _ => hst.kp.typ k cs t fr h1 List.not_mem_nil fun h3 => ?_⟩, fun k cs t fr h1 h2 => hst.kp.typ k cs t fr h2 List.not_mem_nil fun h3 => ?_⟩, ⟨hst.kp.typ _ _ _ _ HT.out.1 List.not_mem_nil fun h3 => ?_, ?_⟩⟩
  · rw [List.mem_singleton.1 h3] at h1
    have := HT.out.2
    unfold Blk at this
    rw [this] at h1
    cases h1
    exact h2 (List.mem_singleton.2 rfl)
  · rw [List.mem_singleton.1 h3] at h1
    omega
  · have h5 := List.mem_singleton.1 h3
    have h6 := HT.out.1
    have h7 := HT.out.2
    rw [h5] at h6
    unfold Blk at h6 h7
    rw [h7] at h6
    simp at h6
  · have h8 := hb
    simpa [e1] using h8
end Go.Proofs.YtpajcfkldnbpfaaGreatDoor
namespace Go.Proofs.YtpajcfkldnbpfaaGreatDoor
open Go.RowKit
theorem addLeaf_2 (h : NH) (b ba tk pb : Nat) (l : List Value) (d : Int) (w0 : World) (hb : Blk w0 b 108 (ptr ba :: ptr tk :: l)) (ht : TokAt w0 0 h tk pb) (h1 : 1 ≤ h.col) (h2 : h.col ≤ 200) (d0 : 0 ≤ d) (d1 : d ≤ 99) : Calls Tryz.prog 245 #[ptr b, .int .i64 d] w0 (TokR d h tk pb w0) := by
  (have c1 := hb.cell (off := 1) rfl; clear hb; go_enter Tryz.func245, Tryz.ntmps245; go_wp2_with fail; refine (tokAdd_any h tk pb d _ ht h1 h2 d0 d1).mono ?_; rintro e w1 ⟨rfl, h3, h4⟩; go_wp2_with fail; exact ret_none rfl rfl ⟨rfl, h3, h4⟩)
theorem addLeaf_3 (h : NH) (b ba tk pb : Nat) (l : List Value) (d : Int) (w0 : World) (hb : Blk w0 b 111 (ptr ba :: ptr tk :: l)) (ht : TokAt w0 0 h tk pb) (h1 : 1 ≤ h.col) (h2 : h.col ≤ 200) (d0 : 0 ≤ d) (d1 : d ≤ 99) : Calls Tryz.prog 251 #[ptr b, .int .i64 d] w0 (TokR d h tk pb w0) := by
  (have c1 := hb.cell (off := 1) rfl; clear hb; go_enter Tryz.func251, Tryz.ntmps251; go_wp2_with fail; refine (tokAdd_any h tk pb d _ ht h1 h2 d0 d1).mono ?_; rintro e w1 ⟨rfl, h3, h4⟩; go_wp2_with fail; exact ret_none rfl rfl ⟨rfl, h3, h4⟩)
theorem addLeaf_4 (h : NH) (b ba tk pb : Nat) (l : List Value) (d : Int) (w0 : World) (hb : Blk w0 b 115 (ptr ba :: ptr tk :: l)) (ht : TokAt w0 0 h tk pb) (h1 : 1 ≤ h.col) (h2 : h.col ≤ 200) (d0 : 0 ≤ d) (d1 : d ≤ 99) : Calls Tryz.prog 257 #[ptr b, .int .i64 d] w0 (TokR d h tk pb w0) := by
  (have c1 := hb.cell (off := 1) rfl; clear hb; go_enter Tryz.func257, Tryz.ntmps257; go_wp2_with fail; refine (tokAdd_any h tk pb d _ ht h1 h2 d0 d1).mono ?_; rintro e w1 ⟨rfl, h3, h4⟩; go_wp2_with fail; exact ret_none rfl rfl ⟨rfl, h3, h4⟩)
theorem addLeaf_5 (h : NH) (b ba tk pb : Nat) (l : List Value) (d : Int) (w0 : World) (hb : Blk w0 b 119 (ptr ba :: ptr tk :: l)) (ht : TokAt w0 0 h tk pb) (h1 : 1 ≤ h.col) (h2 : h.col ≤ 200) (d0 : 0 ≤ d) (d1 : d ≤ 99) : Calls Tryz.prog 263 #[ptr b, .int .i64 d] w0 (TokR d h tk pb w0) := by
  (have c1 := hb.cell (off := 1) rfl; clear hb; go_enter Tryz.func263, Tryz.ntmps263; go_wp2_with fail; refine (tokAdd_any h tk pb d _ ht h1 h2 d0 d1).mono ?_; rintro e w1 ⟨rfl, h3, h4⟩; go_wp2_with fail; exact ret_none rfl rfl ⟨rfl, h3, h4⟩)
theorem addLeaf_6 (h : NH) (b ba tk pb : Nat) (l : List Value) (d : Int) (w0 : World) (hb : Blk w0 b 122 (ptr ba :: ptr tk :: l)) (ht : TokAt w0 0 h tk pb) (h1 : 1 ≤ h.col) (h2 : h.col ≤ 200) (d0 : 0 ≤ d) (d1 : d ≤ 99) : Calls Tryz.prog 269 #[ptr b, .int .i64 d] w0 (TokR d h tk pb w0) := by
  (have c1 := hb.cell (off := 1) rfl; clear hb; go_enter Tryz.func269, Tryz.ntmps269; go_wp2_with fail; refine (tokAdd_any h tk pb d _ ht h1 h2 d0 d1).mono ?_; rintro e w1 ⟨rfl, h3, h4⟩; go_wp2_with fail; exact ret_none rfl rfl ⟨rfl, h3, h4⟩)
theorem addLeaf_7 (h : NH) (b ba tk pb : Nat) (l : List Value) (d : Int) (w0 : World) (hb : Blk w0 b 124 (ptr ba :: ptr tk :: l)) (ht : TokAt w0 0 h tk pb) (h1 : 1 ≤ h.col) (h2 : h.col ≤ 200) (d0 : 0 ≤ d) (d1 : d ≤ 99) : Calls Tryz.prog 275 #[ptr b, .int .i64 d] w0 (TokR d h tk pb w0) := by
  (have c1 := hb.cell (off := 1) rfl; clear hb; go_enter Tryz.func275, Tryz.ntmps275; go_wp2_with fail; refine (tokAdd_any h tk pb d _ ht h1 h2 d0 d1).mono ?_; rintro e w1 ⟨rfl, h3, h4⟩; go_wp2_with fail; exact ret_none rfl rfl ⟨rfl, h3, h4⟩)
theorem addLeaf_8 (h : NH) (b ba tk pb : Nat) (l : List Value) (d : Int) (w0 : World) (hb : Blk w0 b 127 (ptr ba :: ptr tk :: l)) (ht : TokAt w0 0 h tk pb) (h1 : 1 ≤ h.col) (h2 : h.col ≤ 200) (d0 : 0 ≤ d) (d1 : d ≤ 99) : Calls Tryz.prog 281 #[ptr b, .int .i64 d] w0 (TokR d h tk pb w0) := by
  (have c1 := hb.cell (off := 1) rfl; clear hb; go_enter Tryz.func281, Tryz.ntmps281; go_wp2_with fail; refine (tokAdd_any h tk pb d _ ht h1 h2 d0 d1).mono ?_; rintro e w1 ⟨rfl, h3, h4⟩; go_wp2_with fail; exact ret_none rfl rfl ⟨rfl, h3, h4⟩)
def AddR (d : Int) (h : NH) (k : F NH) (b lo hi : Nat) (w : World) (e : Ending) (w' : World) : Prop := e = .returned (.tuple #[]) ∧ Sh lo hi w w' ∧ AstN w' d lo hi (.cons h k .nil) [b]
def addF : Int → Nat
  | 2 => 245
  | 3 => 251
  | 4 => 257
  | 5 => 263
  | 6 => 269
  | 7 => 275
  | 8 => 281
  | 10 => 293
  | 11 => 299
  | 13 => 305
  | 14 => 317
  | 16 => 323
  | 17 => 331
  | 19 => 345
  | _ => 0
def AddC (h : NH) (k : F NH) : Prop := ∀ (d : Int) (b lo hi : Nat) (w : World), 0 ≤ d → d ≤ 99 → AstN w 0 lo hi (.cons h k .nil) [b] → Calls Tryz.prog (addF h.kind) #[ptr b, .int .i64 d] w (AddR d h k b lo hi w)
theorem add_leaf (h : NH) (hl : LeafN h) (h1 : 1 ≤ h.col) (h2 : h.col ≤ 200) : AddC h .nil := by
  rintro d b lo hi w d0 d1 ⟨b', bs', ba, tk, pb, m1, mid, kb, e, hlo, hm1, ht, hba, hn, hk, hr⟩
  cases e
  have hmid := hk.2
  have hhi := hr.2
  have fin : ∀ e w', TokR d h tk pb w e w' → AddR d h .nil b lo hi w e w' := by
    rintro e w' ⟨rfl, hs, ht'⟩
    exact ⟨rfl, hs.mono hlo (by omega), b, [], ba, tk, pb, m1, mid, kb, rfl, hlo, hm1, ht', hba.sh hs (by decide), hn.sh hs, hk, hr⟩
  rcases hl with g | ⟨g, -⟩ | ⟨g, -⟩ | ⟨g, -⟩ | ⟨g, -⟩ | ⟨g, -⟩ | ⟨g, -⟩
  all_goals
    rw [g]
    rcases hn with ⟨g', hn⟩ | ⟨g', v, hn, h'⟩ | ⟨g', v, hn, h'⟩ | ⟨g', f, hn⟩ | ⟨g', f, hn, h'⟩ | ⟨g', h', hn⟩ | ⟨g', hn⟩ | ⟨g', k0, h', hn⟩ | ⟨g', p, c, h1, h2, hn⟩ | ⟨g', v0, v1, h', hn⟩ | ⟨g', p, c, pc, cc, h1, h2, h3, h4, hn⟩ | ⟨g', v0, v1, h', hn⟩ | ⟨g', v0, h', hn⟩ | ⟨g', v0, h', hn⟩
    all_goals first | (exfalso; omega) | skip
  · exact (addLeaf_8 h b ba tk pb _ d w hn ht h1 h2 d0 d1).mono fin
  · exact (addLeaf_2 h b ba tk pb _ d w hn ht h1 h2 d0 d1).mono fin
  · exact (addLeaf_3 h b ba tk pb _ d w hn ht h1 h2 d0 d1).mono fin
  · exact (addLeaf_4 h b ba tk pb _ d w hn ht h1 h2 d0 d1).mono fin
  · exact (addLeaf_5 h b ba tk pb _ d w hn ht h1 h2 d0 d1).mono fin
  · exact (addLeaf_6 h b ba tk pb _ d w hn ht h1 h2 d0 d1).mono fin
  · exact (addLeaf_7 h b ba tk pb _ d w hn ht h1 h2 d0 d1).mono fin
end Go.Proofs.YtpajcfkldnbpfaaGreatDoor
namespace Go.Proofs.YtpajcfkldnbpfaaGreatDoor
open Go.RowKit
theorem NOK.kinds {h : NH} {k : F NH} (hn : NOK h k) : h.kind = 2 ∨ h.kind = 3 ∨ h.kind = 4 ∨ h.kind = 5 ∨ h.kind = 6 ∨ h.kind = 7 ∨ h.kind = 8 ∨ h.kind = 10 ∨ h.kind = 11 ∨ h.kind = 13 ∨ h.kind = 14 ∨ h.kind = 16 ∨ h.kind = 17 ∨ h.kind = 19 := by
  obtain ⟨_, _, _, hs⟩ := hn
  rcases hs with ⟨_, hl, _⟩ | ⟨g, _⟩ | ⟨g, _⟩ | ⟨g, _⟩ | ⟨g, _⟩ | ⟨g, _⟩ | ⟨g, _⟩ | ⟨g, _⟩
  · rcases hl with g | ⟨g, -⟩ | ⟨g, -⟩ | ⟨g, -⟩ | ⟨g, -⟩ | ⟨g, -⟩ | ⟨g, -⟩ <;> omega
  all_goals omega
def Add1R (d : Int) (h : NH) (tk pb m1 mid : Nat) (f : F NH) (bs : List Nat) (w : World) (e : Ending) (w' : World) : Prop := e = .returned (.tuple #[]) ∧ Sh pb mid w w' ∧ TokAt w' d h tk pb ∧ AstN w' d m1 mid f bs
set_option maxRecDepth 100000 in
set_option maxHeartbeats 2000000 in
theorem add_19 (h x : NH) (kx : F NH) (b ba tk pb c0 m1 mid : Nat) (d : Int) (w0 : World) (hb : Blk w0 b 161 [ptr ba, .pointer none, ptr tk, nodeV x c0]) (ht : TokAt w0 0 h tk pb) (h1 : 1 ≤ h.col) (h2 : h.col ≤ 200) (d0 : 0 ≤ d) (d1 : d ≤ 99) (hpb : pb < m1) (hx : AstN w0 0 m1 mid (.cons x kx .nil) [c0]) (hxk : NOK x kx) (hX : AddC x kx) : Calls Tryz.prog 345 #[ptr b, .int .i64 d] w0 (Add1R d h tk pb m1 mid (.cons x kx .nil) [c0] w0) := by
  have HT := Lib.hid (And.intro ht (And.intro h1 (And.intro h2 (And.intro d0 (And.intro d1 (And.intro hpb (And.intro hx hb)))))))
  have HK := Lib.hid (And.intro hxk.kinds hX)
  have c2 := hb.cell (off := 2) rfl
  clear ht h1 h2 d0 d1 hpb hx hxk hX hb
  go_enter Tryz.func345, Tryz.ntmps345
  go_upto_region 1 with fail
  (refine (tokAdd_any h tk pb d _ HT.out.1 HT.out.2.1 HT.out.2.2.1 HT.out.2.2.2.1 HT.out.2.2.2.2.1).mono ?_; rintro e w1 ⟨rfl, hs1, ht1⟩; have H1 := Lib.hid (And.intro hs1 ht1); clear hs1 ht1)
  go_upto_region 1 with fail
  clear c2
  have hm := HT.out.2.2.2.2.2.1
  have hl := HT.out.2.2.2.2.2.2.1.lohi
  have hC := HK.out.2 d c0 m1 mid w1 HT.out.2.2.2.1 HT.out.2.2.2.2.1 (HT.out.2.2.2.2.2.2.1.sh H1.out.1 (.inl hm))
  have c3 := (HT.out.2.2.2.2.2.2.2.sh H1.out.1 (by decide)).cell (off := 3) rfl
  have fin : ∀ e w2, AddR d x kx c0 m1 mid w1 e w2 → Add1R d h tk pb m1 mid (.cons x kx .nil) [c0] w0 e w2 := by
    rintro e w2 ⟨rfl, h3, h4⟩
    exact ⟨rfl, (H1.out.1.mono (Nat.le_refl _) (by omega)).trans (h3.mono (by omega) (Nat.le_refl _)), H1.out.2.sh h3 (.inl hm), h4⟩
  have HF := Lib.hid fin
  clear fin hm hl
  (rcases HK.out.1 with g | g | g | g | g | g | g | g | g | g | g | g | g | g)
  all_goals
    unfold nodeV at c3
    rw [g] at hC c3
    have HC := Lib.hid hC
    clear hC g
    simp only [tyOf, addF] at c3 HC
    go_wp2_with fail
    refine HC.out.mono ?_
    rintro e w2 hr
    obtain ⟨rfl, -⟩ := id hr
    have HR := Lib.hid (HF.out _ _ hr)
    clear hr
    go_wp2_with fail
    exact ret_none rfl rfl HR.out
end Go.Proofs.YtpajcfkldnbpfaaGreatDoor
namespace Go.Proofs.YtpajcfkldnbpfaaGreatDoor
open Go.RowKit
set_option maxRecDepth 100000 in
set_option maxHeartbeats 2000000 in
theorem add_17 (h x : NH) (kx : F NH) (b ba tk pb c0 m1 mid : Nat) (d : Int) (w0 : World) (hb : Blk w0 b 155 [ptr ba, ptr tk, nodeV x c0]) (ht : TokAt w0 0 h tk pb) (h1 : 1 ≤ h.col) (h2 : h.col ≤ 200) (d0 : 0 ≤ d) (d1 : d ≤ 99) (hpb : pb < m1) (hx : AstN w0 0 m1 mid (.cons x kx .nil) [c0]) (g : x.kind = 8) (hX : AddC x kx) : Calls Tryz.prog 331 #[ptr b, .int .i64 d] w0 (Add1R d h tk pb m1 mid (.cons x kx .nil) [c0] w0) := by
  have HT := Lib.hid (And.intro ht (And.intro h1 (And.intro h2 (And.intro d0 (And.intro d1 (And.intro hpb (And.intro hx hb)))))))
  have HK := Lib.hid (And.intro g hX)
  have c2 := hb.cell (off := 1) rfl
  clear ht h1 h2 d0 d1 hpb hx g hX hb
  go_enter Tryz.func331, Tryz.ntmps331
  go_upto_region 1 with fail
  (refine (tokAdd_any h tk pb d _ HT.out.1 HT.out.2.1 HT.out.2.2.1 HT.out.2.2.2.1 HT.out.2.2.2.2.1).mono ?_; rintro e w1 ⟨rfl, hs1, ht1⟩; have H1 := Lib.hid (And.intro hs1 ht1); clear hs1 ht1)
  go_upto_region 1 with fail
  clear c2
  have hm := HT.out.2.2.2.2.2.1
  have hl := HT.out.2.2.2.2.2.2.1.lohi
  have hC := HK.out.2 d c0 m1 mid w1 HT.out.2.2.2.1 HT.out.2.2.2.2.1 (HT.out.2.2.2.2.2.2.1.sh H1.out.1 (.inl hm))
  have c3 := (HT.out.2.2.2.2.2.2.2.sh H1.out.1 (by decide)).cell (off := 2) rfl
  have fin : ∀ e w2, AddR d x kx c0 m1 mid w1 e w2 → Add1R d h tk pb m1 mid (.cons x kx .nil) [c0] w0 e w2 := by
    rintro e w2 ⟨rfl, h3, h4⟩
    exact ⟨rfl, (H1.out.1.mono (Nat.le_refl _) (by omega)).trans (h3.mono (by omega) (Nat.le_refl _)), H1.out.2.sh h3 (.inl hm), h4⟩
  have HF := Lib.hid fin
  clear fin hm hl
  · have g := HK.out.1
    unfold nodeV at c3
    rw [g] at hC c3
    have HC := Lib.hid hC
    clear hC g
    simp only [tyOf, addF] at c3 HC
    go_wp2_with fail
    refine HC.out.mono ?_
    rintro e w2 hr
    obtain ⟨rfl, -⟩ := id hr
    have HR := Lib.hid (HF.out _ _ hr)
    clear hr
    go_wp2_with fail
    exact ret_none rfl rfl HR.out
set_option maxRecDepth 100000 in
set_option maxHeartbeats 2000000 in
theorem add_10 (h x : NH) (kx : F NH) (b ba tk pb c0 m1 mid : Nat) (d : Int) (w0 : World) (hb : Blk w0 b 132 [ptr ba, ptr tk, ptr c0]) (ht : TokAt w0 0 h tk pb) (h1 : 1 ≤ h.col) (h2 : h.col ≤ 200) (d0 : 0 ≤ d) (d1 : d ≤ 99) (hpb : pb < m1) (hx : AstN w0 0 m1 mid (.cons x kx .nil) [c0]) (g : x.kind = 8) (hX : AddC x kx) : Calls Tryz.prog 293 #[ptr b, .int .i64 d] w0 (Add1R d h tk pb m1 mid (.cons x kx .nil) [c0] w0) := by
  have HT := Lib.hid (And.intro ht (And.intro h1 (And.intro h2 (And.intro d0 (And.intro d1 (And.intro hpb (And.intro hx hb)))))))
  have HK := Lib.hid (And.intro g hX)
  have c2 := hb.cell (off := 1) rfl
  clear ht h1 h2 d0 d1 hpb hx g hX hb
  go_enter Tryz.func293, Tryz.ntmps293
  go_upto_region 1 with fail
  (refine (tokAdd_any h tk pb d _ HT.out.1 HT.out.2.1 HT.out.2.2.1 HT.out.2.2.2.1 HT.out.2.2.2.2.1).mono ?_; rintro e w1 ⟨rfl, hs1, ht1⟩; have H1 := Lib.hid (And.intro hs1 ht1); clear hs1 ht1)
  go_upto_region 1 with fail
  clear c2
  have hm := HT.out.2.2.2.2.2.1
  have hl := HT.out.2.2.2.2.2.2.1.lohi
  have hC := HK.out.2 d c0 m1 mid w1 HT.out.2.2.2.1 HT.out.2.2.2.2.1 (HT.out.2.2.2.2.2.2.1.sh H1.out.1 (.inl hm))
  have c3 := (HT.out.2.2.2.2.2.2.2.sh H1.out.1 (by decide)).cell (off := 2) rfl
  have fin : ∀ e w2, AddR d x kx c0 m1 mid w1 e w2 → Add1R d h tk pb m1 mid (.cons x kx .nil) [c0] w0 e w2 := by
    rintro e w2 ⟨rfl, h3, h4⟩
    exact ⟨rfl, (H1.out.1.mono (Nat.le_refl _) (by omega)).trans (h3.mono (by omega) (Nat.le_refl _)), H1.out.2.sh h3 (.inl hm), h4⟩
  have HF := Lib.hid fin
  clear fin hm hl
  · have g := HK.out.1
    rw [g] at hC
    have HC := Lib.hid hC
    clear hC g
    simp only [addF] at HC
    go_wp2_with fail
    refine HC.out.mono ?_
    rintro e w2 hr
    obtain ⟨rfl, -⟩ := id hr
    have HR := Lib.hid (HF.out _ _ hr)
    clear hr
    go_wp2_with fail
    exact ret_none rfl rfl HR.out
end Go.Proofs.YtpajcfkldnbpfaaGreatDoor
