/- bare at numbers and lists; build, of every tree. The digits of integers. FormatUint; digits. -/
import Derived.Test.YtpajcfkldnbpfaaGreatDoorV25
import Derived.Lib.AppendIntMem
import Derived.WalkSmall
import Derived.MakeChecks
import Derived.Stop.LaidErr
import Derived.Lib.LaidTab
set_option linter.unusedSimpArgs false
set_option linter.unusedVariables false
namespace Go.Proofs.YtpajcfkldnbpfaaGreatDoor
open Go.RowKit
set_option maxRecDepth 100000 in
set_option maxHeartbeats 1000000 in
theorem bare_int (h : NH) (p : Option Addr) (n c tk pb : Nat) (w0 : World) (ht : TokAt w0 0 h tk pb) (hk : h.kind = 4) (hv : IntN h.text h.value) : Calls Tryz.prog 32 #[nval h (.slice p n c), ptr tk] w0 (BareR h .nil tk pb w0) := by
  (have hst := St.nil w0.heap.size ⟨[], []⟩ w0 (Nat.le_refl _); obtain ⟨kd, ty, va, te, fl, co, of⟩ := h; simp only at hk; subst hk; have HT := Lib.hid ht; clear ht; unfold nval; go_enter Tryz.func32, Tryz.ntmps32; go_wp2_with ((first | ((with_reducible refine at_load ?_); first | refine X1 hst ?_ | refine XW hst ?_) | ((with_reducible refine at_store ?_); (first | refine Y1 hst ?_ | refine YW hst ?_); clear hst; intro w hst) | ((first | ((with_reducible refine at_alloc ?_); refine ZP hst ?_) | ((with_reducible refine at_box ?_); refine ZP hst ?_) | ((with_reducible refine at_bslice ?_); refine ZS hst ?_)); clear hst; (intro b0 w hb0 hst)))))
  refine (integer_any tk pb ⟨4, ty, va, te, fl, co, of⟩ _ hv (HT.out.1.below hst.kp.below)).mono ?_
  rintro e w1 ⟨v, hv2, ⟨b, ba, rfl, hlb, hlba, hbb, hba, hb⟩⟩
  have hsz0 := hst.kp.size
  replace hst := hst.below hb
  have HV := Lib.hid hv2
  clear hv2
  go_wp2_with ((first | ((with_reducible refine at_load ?_); first | refine X1 hst ?_ | refine XW hst ?_) | ((with_reducible refine at_store ?_); (first | refine Y1 hst ?_ | refine YW hst ?_); clear hst; intro w hst)))
  refine ret_tmp rfl rfl rfl ?_
  exact ⟨b, ba, tk, pb, w0.heap.size, [], rfl, .inl ⟨rfl, rfl⟩, hst.kp.size, fun w2 ha ht => ⟨ht, hba.agree ha (by omega), .inr (.inr (.inl ⟨rfl, v, hbb.agree ha (by omega), HV.out⟩)), ⟨rfl, hst.kp.size⟩⟩, hst.kp.below⟩
set_option maxRecDepth 100000 in
set_option maxHeartbeats 1000000 in
theorem bare_float (h : NH) (p : Option Addr) (n c tk pb : Nat) (w0 : World) (ht : TokAt w0 0 h tk pb) (hk : h.kind = 5) (hv : FloatN h.text) (hT : Tabs w0) (hPF : PFC h.text) : Calls Tryz.prog 32 #[nval h (.slice p n c), ptr tk] w0 (BareR h .nil tk pb w0) := by
  (have hst := St.nil w0.heap.size ⟨[], []⟩ w0 (Nat.le_refl _); obtain ⟨kd, ty, va, te, fl, co, of⟩ := h; simp only at hk; subst hk; have HT := Lib.hid ht; clear ht; unfold nval; go_enter Tryz.func32, Tryz.ntmps32; go_wp2_with ((first | ((with_reducible refine at_load ?_); first | refine X1 hst ?_ | refine XW hst ?_) | ((with_reducible refine at_store ?_); (first | refine Y1 hst ?_ | refine YW hst ?_); clear hst; intro w hst) | ((first | ((with_reducible refine at_alloc ?_); refine ZP hst ?_) | ((with_reducible refine at_box ?_); refine ZP hst ?_) | ((with_reducible refine at_bslice ?_); refine ZS hst ?_)); clear hst; (intro b0 w hb0 hst)))))
  refine (float_any tk pb ⟨5, ty, va, te, fl, co, of⟩ _ hv (hT.below hst.kp.below) hPF (HT.out.1.below hst.kp.below)).mono ?_
  rintro e w1 ⟨v, ⟨b, ba, rfl, hlb, hlba, hbb, hba, hb⟩⟩
  have hsz0 := hst.kp.size
  replace hst := hst.below hb
  go_wp2_with ((first | ((with_reducible refine at_load ?_); first | refine X1 hst ?_ | refine XW hst ?_) | ((with_reducible refine at_store ?_); (first | refine Y1 hst ?_ | refine YW hst ?_); clear hst; intro w hst)))
  refine ret_tmp rfl rfl rfl ?_
  exact ⟨b, ba, tk, pb, w0.heap.size, [], rfl, .inl ⟨rfl, rfl⟩, hst.kp.size, fun w2 ha ht => ⟨ht, hba.agree ha (by omega), .inr (.inr (.inr (.inl ⟨rfl, v, hbb.agree ha (by omega)⟩))), ⟨rfl, hst.kp.size⟩⟩, hst.kp.below⟩
set_option maxRecDepth 100000 in
set_option maxHeartbeats 1000000 in
theorem bare_seq (A : Nat → Nat → Prop) (h : NH) (k : F NH) (p : Option Addr) (c tk pb : Nat) (w0 : World) (ht : TokAt w0 0 h tk pb) (hs : SlT A w0 p k) (hl : k.len ≤ 1000) (hk : h.kind = 14) (hP : ∀ i x kk, k.get i = some (x, kk) → BuildC x kk ∧ NOK x kk ∧ kk.all NOK) : Calls Tryz.prog 32 #[nval h (.slice p k.len c), ptr tk] w0 (BareR h k tk pb w0) := by
  have HS := Lib.hid (And.intro hs hP)
  clear hs hP
  (have hst := St.nil w0.heap.size ⟨[], []⟩ w0 (Nat.le_refl _); obtain ⟨kd, ty, va, te, fl, co, of⟩ := h; simp only at hk; subst hk; have HT := Lib.hid ht; clear ht; unfold nval; go_enter Tryz.func32, Tryz.ntmps32; go_wp2_with ((first | ((with_reducible refine at_load ?_); first | refine X1 hst ?_ | refine XW hst ?_) | ((with_reducible refine at_store ?_); (first | refine Y1 hst ?_ | refine YW hst ?_); clear hst; intro w hst) | ((first | ((with_reducible refine at_alloc ?_); refine ZP hst ?_) | ((with_reducible refine at_box ?_); refine ZP hst ?_) | ((with_reducible refine at_bslice ?_); refine ZS hst ?_)); clear hst; (intro b0 w hb0 hst)))))
  refine (seq_any A ⟨14, ty, va, te, fl, co, of⟩ k p c tk pb _ (HS.out.1.lt hst.kp.below) hl (HT.out.below hst.kp.below) HS.out.2).mono ?_
  rintro e w1 ⟨b, ba, c1, cc, p1, pc, bs, rfl, hc1, hcc, hlen, hall, hb⟩
  have hsz0 := hst.kp.size
  replace hst := hst.below hb
  have HV := Lib.hid (And.intro hc1 (And.intro hcc (And.intro hlen hall)))
  clear hall
  go_wp2_with ((first | ((with_reducible refine at_load ?_); first | refine X1 hst ?_ | refine XW hst ?_) | ((with_reducible refine at_store ?_); (first | refine Y1 hst ?_ | refine YW hst ?_); clear hst; intro w hst)))
  refine ret_tmp rfl rfl rfl ?_
  refine ⟨b, ba, tk, pb, w0.heap.size, bs, rfl, .inl ⟨rfl, rfl⟩, hst.kp.size, fun w2 ha ht => ?_, hst.kp.below⟩
  obtain ⟨a1, a2, a3, a4, a5⟩ := HV.out.2.2.2 w2 (ha.mono hsz0)
  have e1 := HV.out.2.2.1
  refine ⟨ht, a3, .inr (.inr (.inr (.inr (.inr (.inr (.inr (.inr (.inr (.inr (.inl ⟨rfl, p1, c1, pc, cc, ?_, ?_, a4, ?_, ?_⟩)))))))))), a1.widen hsz0 (Nat.le_refl _)⟩
  · rw [e1]; exact HV.out.1
  · rw [e1]; exact HV.out.2.1
  · rw [e1]; exact a5
  · rw [e1]; exact a2
theorem allTop_at {p : NH → Prop} : ∀ {k : F NH} {m : Nat} {x : NH} {kk : F NH}, allTop p k → k.get m = some (x, kk) → p x := by
  intro k
  induction k with
  | nil => intro m x kk _ h; cases h
  | cons h k r ihk ihr =>
    intro m x kk ha hg
    cases m with
    | zero =>
      simp only [F.get, Option.some.injEq, Prod.mk.injEq] at hg
      obtain ⟨rfl, rfl⟩ := hg
      exact ha.1
    | succ m => exact ihr ha.2 hg
theorem build_all (hPF : ∀ s, FloatN s → PFC s) : ∀ (s : Nat) (h : NH) (k : F NH), k.size < s → k.size ≤ 1000 → NOK h k → k.all NOK → BuildC h k := by
  intro s
  induction s with
  | zero => intro h k hs; exact absurd hs (Nat.not_lt_zero _)
  | succ s ih =>
    intro h k hs hsz hok hall
    have hlen := F.len_le_size k
    have hkids : ∀ i x kk, k.get i = some (x, kk) → BuildC x kk ∧ NOK x kk ∧ kk.all NOK := fun i x kk hg => by
      have h2 := F.size_get hg
      obtain ⟨h3, h4⟩ := F.all_get hall hg
      exact ⟨ih x kk (by omega) (by omega) h3 h4, h3, h4⟩
    have hpair : ∀ (h : NH) (k : F NH), h.kind = 13 → NOK h k → k.all NOK → k.size ≤ s → k.size ≤ 1000 → PairC h k := fun h k h13 hok hall hks hk1 => by
      rcases hok.2.2.2 with ⟨_, h1, _⟩ | ⟨h1, _⟩ | ⟨h1, _⟩ | ⟨_, _, a, b, kb, rfl, h5, h6⟩ | ⟨h1, _⟩ | ⟨h1, _⟩ | ⟨h1, _⟩ | ⟨h1, _⟩
      · unfold LeafN at h1; omega
      · omega
      · omega
      · obtain ⟨n1, -, n3, n4, -⟩ := hall
        simp only [F.size] at hks hk1
        exact ⟨⟨hok.1, hok.2.1⟩, fun A q cq w hs2 hkc => pair_any A h _ q cq w hs2 hkc h13 ⟨hok.1, hok.2.1⟩ a b kb rfl ⟨h5, h6⟩ (ih a .nil (by simp only [F.size]; omega) (by simp only [F.size]; omega) n1 trivial) (ih b kb (by omega) (by omega) n3 n4) ⟨n1, n3, n4⟩⟩
      all_goals omega
    intro A p c w hs2 hkc _ _
    refine build_step h k hok ?_ A p c w hs2 hkc
    intro A p c tk pb w ht hs2 hkc
    have hl : k.len ≤ 1000 := by omega
    rcases hok.2.2.2 with ⟨rfl, h1, _⟩ | ⟨h1, _, a, rfl, h8, _⟩ | ⟨h1, _, h13⟩ | ⟨h1, _⟩ | ⟨h1, _⟩ | ⟨h1, _, a, b, kb, rfl, h8, _⟩ | ⟨h1, _, a, rfl, h8, _⟩ | ⟨h1, _, _, b, kb, rfl⟩
    · rcases h1 with h1 | ⟨h1, h2⟩ | ⟨h1, h2⟩ | ⟨h1, h2⟩ | ⟨h1, h2⟩ | ⟨h1, h2⟩ | ⟨h1, h2⟩
      · exact (bare_string h p 0 c tk pb w ht h1 hok.1 hok.2.1).mono fun _ _ h => .inl h
      · exact (bare_null h p 0 c tk pb w ht h1).mono fun _ _ h => .inl h
      · exact (bare_bool h p 0 c tk pb w ht h1 h2).mono fun _ _ h => .inl h
      · exact (bare_int h p 0 c tk pb w ht h1 h2).mono fun _ _ h => .inl h
      · exact (bare_float h p 0 c tk pb w ht h1 h2 hs2.2 (hPF _ h2)).mono fun _ _ h => .inl h
      · exact (bare_inf h p 0 c tk pb w ht h1 h2).mono fun _ _ h => .inl h
      · exact (bare_nan h p 0 c tk pb w ht h1 h2).mono fun _ _ h => .inl h
    · exact (bare_literal A h _ p c tk pb w ht hs2 hkc h1 a rfl h8 hall.1).mono fun _ _ h => .inl h
    · refine (bare_map A h k p c tk pb w ht hs2 hkc h1 hl fun i x kk hg => ?_).mono fun _ _ h => .inl h
      obtain ⟨-, h3, h4⟩ := hkids i x kk hg
      have h5 := F.size_get hg
      have hx : x.kind = 13 := allTop_at h13 hg
      exact hpair x kk hx h3 h4 (by omega) (by omega)
    · exact bare_pair h k p c tk pb A w hs2 hkc h1 (hpair h k h1 hok hall (by omega) hsz)
    · exact (bare_seq A h k p c tk pb w ht hs2 hl h1 hkids).mono fun _ _ h => .inl h
    · obtain ⟨n1, n2, n3, n4, -⟩ := hall
      exact (bare_anchor A h _ p c tk pb w ht hs2 hkc h1 a b .nil kb rfl (hkids 0 _ _ rfl).1 (hkids 1 _ _ rfl).1 ⟨n1, n2, n3, n4⟩).mono fun _ _ h => .inl h
    · obtain ⟨n1, n2, -⟩ := hall
      exact (bare_alias A h _ p c tk pb w ht hs2 hkc h1 a .nil rfl (hkids 0 _ _ rfl).1 n1 n2).mono fun _ _ h => .inl h
    · obtain ⟨n1, n2, -⟩ := hall
      exact (bare_tag A h _ p c tk pb w ht hs2 hkc h1 b kb rfl (hkids 0 _ _ rfl).1 n1 n2).mono fun _ _ h => .inl h
end Go.Proofs.YtpajcfkldnbpfaaGreatDoor
namespace Go.Proofs.YtpajcfkldnbpfaaGreatDoor
open Go.RowKit Go.Sort
theorem pow10_global : Tryz.prog.globalNamed "internal/strconv.uint64pow10" = some 3 := by kernel_rfl
theorem Tabs.laid {w : World} (h : Tabs w) : ∃ W0, laidMet Tryz.prog Rows.fnVisitsTreeRow.laid W0 ∧ Below W0.heap.size W0 w := by
  obtain ⟨W0, h1, h2⟩ := h
  rw [MakeChecks.laidMetH_plain _ _ _ (by kernel_rfl)] at h1
  exact ⟨W0, h1, h2⟩
theorem var_of_below {W0 w : World} (hb : Below W0.heap.size W0 w) {name : String} {g : Nat} {cs : Array Value} (hg : Tryz.prog.globalNamed name = some g) (hv : W0.var? Tryz.prog name = some cs) : w.var? Tryz.prog name = some cs := by
  refine var?_below hb hg ?_ hv
  unfold World.var? at hv
  rw [hg] at hv
  simp only [Option.bind_some] at hv
  split at hv
  · rename_i h
    exact lt_of_heap h
  · cases hv
theorem Tabs.pow10 {w : World} (h : Tabs w) : Lib.TabIs Tryz.prog w "internal/strconv.uint64pow10" .u64 Lib.pow10Tab := by
  obtain ⟨W0, h1, h2⟩ := h.laid
  have h3 := h1.tail.tail.tail.tail.tail.tail.tail.tail
  exact var_of_below h2 pow10_global (Lib.tabIs_of_head (g := 3) (t := 277) (e := 211) (n := 20) pow10_global (by kernel_rfl) (by kernel_rfl) (by kernel_rfl) (by kernel_rfl) (by kernel_rfl) h3)
theorem below_grow (w : World) (q : Nat) (os : Array Obj) : Below w.heap.size w (grow (w.drewN q) os) := by
  refine ⟨rfl, rfl, rfl, ?_, fun k hk => ?_⟩
  · simp [grow, World.drewN]
  · simp only [grow, World.drewN]
    rw [Array.getElem?_append_left hk]
end Go.Proofs.YtpajcfkldnbpfaaGreatDoor
namespace Go.Proofs.YtpajcfkldnbpfaaGreatDoor
open Go.RowKit Go.Sort Go.Lib
def NameB (s : ByteArray) (w : World) (e : Ending) (w' : World) : Prop := e = .returned (.string s) ∧ Below w.heap.size w w'
def StrR (l : List UInt8) (w : World) (e : Ending) (w' : World) : Prop := e = .returned (.string ⟨l.toArray⟩) ∧ Below w.heap.size w w'
set_option maxHeartbeats 6400000 in
set_option maxRecDepth 100000 in
theorem formatUintI_any (u : Nat) (hu64 : u < 18446744073709551616) (w : World) (htab : Lib.TabIs Tryz.prog w "internal/strconv.uint64pow10" .u64 Lib.pow10Tab) : Calls Tryz.prog 109 #[.int .u64 u, .int .i64 10] w (StrR (Lib.decDigits u) w) := by
  by_cases h1 : u < 100
  · go_enter Tryz.func109, Tryz.ntmps109
    go_wp2_with fail
    refine (Tryz.internal_strconv_small u h1 _).mono ?_
    rintro e w' ⟨rfl, rfl⟩
    go_wp2_with fail
    exact ret_tmp rfl rfl rfl ⟨rfl, Below.refl _ _⟩
  · have hu1 : 1 ≤ u := by omega
    have hnd20 : Lib.nDigits u ≤ 20 := by have := Lib.numDigits_eq u hu1 hu64; split at this <;> omega
    have hb3 : Lib.nDigits u ≤ 24 := by omega
    have hal : Tryz.prog.arrayLen 229 = 24 := by kernel_rfl
    have hel : Tryz.prog.elem 229 = 5 := by kernel_rfl
    have hsl : ∀ W, (Instr.sliceAt 229 (.pointer (some ⟨w.heap.size, 0, none⟩)) none (some (.int .i64 (Lib.nDigits u : Int))) none).run Tryz.prog W = .ok (.slice (some ⟨w.heap.size, 0, none⟩) (Lib.nDigits u) 24) W := fun W => by
      rw [run_sliceAt_array_h W 229 ⟨w.heap.size, 0, none⟩ (by simp [Program.arrayLen, Program.elem, Tryz.underlying229]) .i64 (Lib.nDigits u : Int) (by omega) (by rw [hal]; omega)]
      go_simp
    have hH0 := Lib.holds_zero0 w 229 (Lib.nDigits u) (by omega)
    have hfmt := Tryz.internal_strconv_formatBase10 w.heap.size 0 24 u (Array.replicate (Lib.nDigits u) 0) (w.alloc (.cells Lib.zeros24 229)) hH0 (by rw [Array.size_replicate]; exact Lib.lt_pow_nDigits u) hu64 (by rw [Array.size_replicate]; omega)
    rw [Array.size_replicate] at hfmt
    have HH0 := Lib.hid hH0
    have HFM := Lib.hid hfmt
    have H1 := Lib.hid h1
    have h100 : ¬ ((u : Int) < 100) := by omega
    clear hH0 hal hel hfmt h1
    go_enter Tryz.func109, Tryz.ntmps109
    go_wp2_with (go_at_call 96; refine (Tryz.internal_strconv_numDigits u hu1 hu64 _ (Lib.tabIs_alloc htab _)).mono ?_; rintro e w' ⟨rfl, rfl⟩)
    refine HFM.out.mono ?_
    rintro e w' ⟨rfl, k, v', dk, rfl, hF⟩
    have hcv : (convert 213 9 (.slice (some ⟨w.heap.size, 0, none⟩) (Lib.nDigits u) 24)).run Tryz.prog ((putRow (fun (b : UInt8) => Value.int .u8 (b.toNat : Int)) (w.alloc (.cells Lib.zeros24 229)) w.heap.size 0 dk).drewN k) = .ok (.string ⟨(Lib.decDigits u).toArray⟩) ((putRow (fun (b : UInt8) => Value.int .u8 (b.toNat : Int)) (w.alloc (.cells Lib.zeros24 229)) w.heap.size 0 dk).drewN k) := by
      have h := run_convert_bytes_back (P := Tryz.prog) ((putRow (fun (b : UInt8) => Value.int .u8 (b.toNat : Int)) (w.alloc (.cells Lib.zeros24 229)) w.heap.size 0 dk).drewN k) 213 9 5 ⟨w.heap.size, 0, none⟩ 24 (Lib.decDigits u) Tryz.underlying213 Tryz.underlying5 Tryz.underlying9 (fun j hj => by
        rw [Lib.row_is_numeral hF j hj, Lib.add_plain, World.cell?_drewN]
        exact cell?_putRow (fun (b : UInt8) => Value.int .u8 (b.toNat : Int)) _ w.heap.size 0 _ dk HH0.out (by rw [hF.size, Array.size_replicate]) j (by rw [hF.size]; rw [Lib.decDigits_length] at hj; exact hj))
      rw [Lib.decDigits_length] at h
      exact h
    have hal : Tryz.prog.arrayLen 229 = 24 := by kernel_rfl
    have hsl2 : ∀ W, (Instr.sliceAt 229 (.pointer (some ⟨w.heap.size, 0, none⟩)) none (some (.int .i64 (Lib.nDigits u : Int))) none).run Tryz.prog W = .ok (.slice (some ⟨w.heap.size, 0, none⟩) (Lib.nDigits u) 24) W := hsl
    have hbel : Below w.heap.size w ((putRow (fun (b : UInt8) => Value.int .u8 (b.toNat : Int)) (w.alloc (.cells Lib.zeros24 229)) w.heap.size 0 dk).drewN k) := by
      rw [alloc_eq_grow]
      obtain ⟨os', _, e⟩ := putRow_grow_new (fun (b : UInt8) => Value.int .u8 (b.toNat : Int)) w #[.cells Lib.zeros24 229] w.heap.size 0 dk (Nat.le_refl _)
      rw [e]
      exact below_grow w k os'
    have HBL := Lib.hid hbel
    clear hal hbel
    go_wp2
    exact ret_tmp rfl rfl rfl ⟨rfl, HBL.out⟩
theorem formatUint_any (u : Nat) (hu64 : u < 18446744073709551616) (w : World) (hT : Tabs w) : Calls Tryz.prog 82 #[.int .u64 u, .int .i64 10] w (StrR (Lib.decDigits u) w) := by
  go_enter Tryz.func82, Tryz.ntmps82
  go_wp2_with fail
  refine (formatUintI_any u hu64 _ hT.pow10).mono ?_
  rintro e w' ⟨rfl, hb⟩
  go_wp2_with fail
  exact ret_tmp rfl rfl rfl ⟨rfl, hb⟩
theorem formatInt_any (n : Int) (h0 : -9223372036854775808 ≤ n) (h1 : n ≤ 9223372036854775807) (w : World) (hT : Tabs w) : Calls Tryz.prog 29 #[.int .i64 n, .int .i64 10] w (StrR (Lib.itoa n) w) := by
  refine (Tryz.strconv_FormatInt_10 n h0 h1 w hT.pow10).mono ?_
  rintro e w' ⟨rfl, k, os, rfl⟩
  exact ⟨rfl, below_grow w k os⟩
theorem run_assert2 (n : Int) (xT : TypeId) (w : World) : (Instr.typeAssert (.iface 2 (.int .i64 n)) xT 2 true).run Tryz.prog w = .ok (.tuple #[.int .i64 n, .bool true]) w := by
  simp [Instr.typeAssert, run_underlying Tryz.underlying2]
theorem run_assert211 (n : Int) (xT : TypeId) (w : World) : (Instr.typeAssert (.iface 211 (.int .u64 n)) xT 211 true).run Tryz.prog w = .ok (.tuple #[.int .u64 n, .bool true]) w := by
  simp [Instr.typeAssert, run_underlying Tryz.underlying211]
def zeroOf (P : Program) (T : Nat) (z : Value) : Prop := ∃ j, P.info? T = some j ∧ j.zero = some z
theorem run_assert2n (n : Int) (xT : TypeId) (w : World) : (Instr.typeAssert (.iface 211 (.int .u64 n)) xT 2 true).run Tryz.prog w = .ok (.tuple #[.int .i64 0, .bool false]) w := by
  simp [Instr.typeAssert, run_underlying Tryz.underlying2]
set_option maxRecDepth 100000 in
theorem digits_any (v : Value) (s : ByteArray) (hv : DigV v s) (w : World) (hT : Tabs w) : Calls Tryz.prog 37 #[v] w (NameB s w) := by
  obtain ⟨n, ⟨rfl, h1, h2⟩ | ⟨rfl, h1, h2⟩, hs⟩ := hv
  · have hs2 : s = ⟨(Lib.itoa n).toArray⟩ := by
      apply ByteArray.ext
      apply Array.ext'
      rw [hs]
    have ha := fun xT w => run_assert2 n xT w
    go_enter Tryz.func37, Tryz.ntmps37
    go_wp2_with fail
    refine (formatInt_any n h1 (by omega) _ hT).mono ?_
    rintro e w' ⟨rfl, hb⟩
    go_wp2_with fail
    exact ret_tmp rfl rfl rfl ⟨by rw [hs2]; rfl, hb⟩
  · obtain ⟨u, rfl⟩ : ∃ u : Nat, n = u := ⟨n.toNat, by omega⟩
    rw [Lib.itoa_nonneg] at hs
    have hs2 : s = ⟨(Lib.decDigits u).toArray⟩ := by
      apply ByteArray.ext
      apply Array.ext'
      rw [hs]
    have ha := fun xT w => run_assert211 (u : Int) xT w
    have ha2 := fun xT w => run_assert2n (u : Int) xT w
    go_enter Tryz.func37, Tryz.ntmps37
    go_wp2_with fail
    refine (formatUint_any u (by omega) _ hT).mono ?_
    rintro e w' ⟨rfl, hb⟩
    go_wp2_with fail
    exact ret_tmp rfl rfl rfl ⟨by rw [hs2]; rfl, hb⟩
end Go.Proofs.YtpajcfkldnbpfaaGreatDoor
