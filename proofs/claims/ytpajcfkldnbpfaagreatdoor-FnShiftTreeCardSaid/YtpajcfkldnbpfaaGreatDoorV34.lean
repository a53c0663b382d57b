/- What a number's text reads as. The decimal's set. -/
import Derived.Test.YtpajcfkldnbpfaaGreatDoorV31
import Derived.IntWalk
import Derived.Test.YtpajcfkldnbpfaaGreatDoorV33
set_option linter.unusedSimpArgs false
set_option linter.unusedVariables false
namespace Go.Proofs.YtpajcfkldnbpfaaGreatDoor
open Go.RowKit
structure SS where
  nd : Nat
  dp : Int
  dot : Bool
def stp (x : SS) (c : UInt8) : SS := if c = 46 then ⟨x.nd, x.nd, true⟩ else if c = 48 ∧ x.nd = 0 then ⟨0, x.dp - 1, x.dot⟩ else ⟨x.nd + 1, x.dp, x.dot⟩
def sc (l : List UInt8) : SS := l.foldl stp ⟨0, 0, false⟩
theorem sc_succ {l : List UInt8} {j : Nat} (h : j < l.length) : sc (l.take (j + 1)) = stp (sc (l.take j)) l[j] := by
  unfold sc
  rw [List.take_succ_eq_append_getElem h, List.foldl_append]
  rfl
theorem sc_snoc (l : List UInt8) (c : UInt8) : sc (l ++ [c]) = stp (sc l) c := by
  unfold sc
  rw [List.foldl_append]
  rfl
theorem stp_nd (x : SS) (c : UInt8) : (stp x c).nd ≤ x.nd + 1 := by
  unfold stp
  split
  · exact Nat.le_succ _
  · split
    · exact Nat.zero_le _
    · exact Nat.le_refl _
theorem stp_dp (x : SS) (c : UInt8) (n : Nat) (h : -(n : Int) ≤ x.dp ∧ x.dp ≤ n ∧ x.nd ≤ n) : -((n + 1 : Nat) : Int) ≤ (stp x c).dp ∧ (stp x c).dp ≤ ((n + 1 : Nat) : Int) ∧ (stp x c).nd ≤ n + 1 := by
  unfold stp
  split
  · dsimp only; omega
  · split
    · dsimp only; omega
    · dsimp only; omega
theorem fold_bound : ∀ (l : List UInt8) (x : SS) (n : Nat), -(n : Int) ≤ x.dp ∧ x.dp ≤ n ∧ x.nd ≤ n → -((n + l.length : Nat) : Int) ≤ (l.foldl stp x).dp ∧ (l.foldl stp x).dp ≤ ((n + l.length : Nat) : Int) ∧ (l.foldl stp x).nd ≤ n + l.length
  | [], x, n, h => h
  | c :: l, x, n, h => by
    have := fold_bound l (stp x c) (n + 1) (stp_dp x c n h)
    rw [List.length_cons, show n + (l.length + 1) = n + 1 + l.length by omega]
    exact this
theorem sc_bound (l : List UInt8) : -(l.length : Int) ≤ (sc l).dp ∧ (sc l).dp ≤ (l.length : Int) ∧ (sc l).nd ≤ l.length := by
  have := fold_bound l ⟨0, 0, false⟩ 0 ⟨by decide, by decide, by decide⟩
  rw [Nat.zero_add] at this
  exact this
theorem fold_dot : ∀ (l : List UInt8) (x : SS), (l.foldl stp x).dot = (x.dot || decide ((46 : UInt8) ∈ l))
  | [], x => by simp
  | c :: l, x => by
    rw [List.foldl_cons, fold_dot l]
    unfold stp
    split
    · rename_i h
      subst h
      simp
    · rename_i h
      have h2 : ((46 : UInt8) ∈ c :: l) ↔ (46 : UInt8) ∈ l := by
        constructor
        · intro h3
          rcases List.mem_cons.1 h3 with h4 | h4
          · exact absurd h4.symm h
          · exact h4
        · exact fun h3 => List.mem_cons_of_mem _ h3
      simp only [h2]
      split <;> rfl
theorem sc_dot (l : List UInt8) : (sc l).dot = decide ((46 : UInt8) ∈ l) := by
  have := fold_dot l ⟨0, 0, false⟩
  simpa [sc] using this
theorem fold_digs : ∀ (l : List UInt8) (x : SS), (∀ c ∈ l, c ≠ 46) → 1 ≤ x.nd → (l.foldl stp x).dp = x.dp ∧ 1 ≤ (l.foldl stp x).nd
  | [], x, _, h => ⟨rfl, h⟩
  | c :: l, x, hc, h => by
    have h1 : stp x c = ⟨x.nd + 1, x.dp, x.dot⟩ := by
      unfold stp
      rw [if_neg (hc c (List.mem_cons_self ..)), if_neg (fun h2 => by omega)]
    rw [List.foldl_cons, h1]
    exact fold_digs l _ (fun d hd => hc d (List.mem_cons_of_mem _ hd)) (Nat.succ_le_succ (Nat.zero_le _))
def BodyL (l : List UInt8) : Prop := (Digs l ∧ 1 ≤ l.length ∧ l.length ≤ 18) ∨ FloatL l
def finDp (x : SS) : Int := if x.dot then x.dp else x.nd
theorem BodyL.fin {l : List UInt8} (h : BodyL l) (h2 : 20 ≤ (sc l).nd) : 14 ≤ finDp (sc l) ∧ finDp (sc l) ≤ 18 := by
  rcases h with ⟨h1, h3, h4⟩ | ⟨a, b, rfl, ha, hb, ha1, ha2, hb1, hb2⟩
  · have := (sc_bound l).2.2
    omega
  · have hna := (sc_bound a).2.2
    have e1 : sc (a ++ 46 :: b) = b.foldl stp ⟨(sc a).nd, (sc a).nd, true⟩ := by
      unfold sc
      rw [List.foldl_append, List.foldl_cons]
      congr 1
    have hbb : ∀ (l : List UInt8) (x : SS), (l.foldl stp x).nd ≤ x.nd + l.length := by
      intro l
      induction l with
      | nil => intro x; exact Nat.le_refl _
      | cons c l ih =>
        intro x
        have h5 := ih (stp x c)
        have h6 := stp_nd x c
        rw [List.foldl_cons, List.length_cons]
        omega
    have h5 := hbb b ⟨(sc a).nd, (sc a).nd, true⟩
    have hd : (sc (a ++ 46 :: b)).dot = true := by rw [sc_dot]; simp
    rw [e1] at h2 hd ⊢
    dsimp only at h5
    have h6 := fold_digs b ⟨(sc a).nd, (sc a).nd, true⟩ (fun c hc => hb.ne (by decide) c hc) (by dsimp only; omega)
    unfold finDp
    rw [if_pos hd, h6.1]
    dsimp only
    omega
theorem Digs.rng {l : List UInt8} (h : Digs l) {c : UInt8} (hc : c ∈ l) : 48 ≤ (c.toNat : Int) ∧ (c.toNat : Int) ≤ 57 := by
  have := h c hc
  omega
theorem BodyL.byte {l : List UInt8} (h : BodyL l) {j : Nat} (hj : j < l.length) : l[j] = 46 ∨ (48 ≤ (l[j].toNat : Int) ∧ (l[j].toNat : Int) ≤ 57) := by
  have hm : l[j] ∈ l := List.getElem_mem hj
  rcases h with ⟨h1, _⟩ | ⟨a, b, rfl, ha, hb, _⟩
  · exact .inr (h1.rng hm)
  · rcases List.mem_append.1 hm with hm | hm
    · exact .inr (ha.rng hm)
    · rcases List.mem_cons.1 hm with hm | hm
      · exact .inl hm
      · exact .inr (hb.rng hm)
theorem BodyL.once {l : List UInt8} (h : BodyL l) {j : Nat} (hj : j < l.length) (h2 : l[j] = 46) : (46 : UInt8) ∉ l.take j := by
  rcases h with ⟨h1, _⟩ | ⟨a, b, rfl, ha, hb, _⟩
  · exact absurd h2 (h1.ne (by decide) _ (List.getElem_mem hj))
  · intro hm
    rcases Nat.lt_or_ge a.length j with h3 | h3
    · rw [List.getElem_append_right (by omega)] at h2
      obtain ⟨m, hm2⟩ : ∃ m, j - a.length = m + 1 := ⟨j - a.length - 1, by omega⟩
      simp only [hm2, List.getElem_cons_succ] at h2
      exact hb.ne (by decide) _ (List.getElem_mem _) h2
    · rw [List.take_append_of_le_length h3] at hm
      exact ha.ne (by decide) _ (List.mem_of_mem_take hm) rfl
theorem BodyL.first {l : List UInt8} (h : BodyL l) : 0 < l.length ∧ l.head? ≠ some 46 ∧ l.head? ≠ some 43 ∧ l.head? ≠ some 45 := by
  have key : ∀ a r : List UInt8, Digs a → 1 ≤ a.length → (a ++ r).head? ≠ some 46 ∧ (a ++ r).head? ≠ some 43 ∧ (a ++ r).head? ≠ some 45 := by
    intro a r ha h1
    match a, h1 with
    | c :: a, _ =>
      have := ha.rng (List.mem_cons_self ..)
      refine ⟨fun e => ?_, fun e => ?_, fun e => ?_⟩ <;> (cases e; revert this; decide)
  rcases h with ⟨h1, h3, h4⟩ | ⟨a, b, rfl, ha, hb, ha1, _⟩
  · have := key l [] h1 h3
    rw [List.append_nil] at this
    exact ⟨by omega, this⟩
  · exact ⟨by rw [List.length_append, List.length_cons]; omega, key a _ ha ha1⟩
theorem BodyL.len {l : List UInt8} (h : BodyL l) : l.length ≤ 25 := by
  rcases h with ⟨h1, h3, h4⟩ | ⟨a, b, rfl, ha, hb, ha1, ha2, hb1, hb2⟩
  · omega
  · rw [List.length_append, List.length_cons]; omega
def NumS (s : ByteArray) (off : Nat) (l : List UInt8) : Prop := BodyL l ∧ ((off = 0 ∧ s.data.toList = l) ∨ (off = 1 ∧ s.data.toList = 45 :: l))
theorem NumS.size {s : ByteArray} {off : Nat} {l : List UInt8} (h : NumS s off l) : s.size = off + l.length := by
  have e : s.data.toList.length = s.size := by simp
  rcases h.2 with ⟨rfl, h2⟩ | ⟨rfl, h2⟩
  · rw [h2] at e; omega
  · rw [h2, List.length_cons] at e; omega
theorem NumS.at {s : ByteArray} {off : Nat} {l : List UInt8} (h : NumS s off l) {j : Nat} (hj : j < l.length) : ∃ h2 : off + j < s.size, s[off + j] = l[j] := by
  have hs := h.size
  have hlt : off + j < s.size := by omega
  refine ⟨hlt, ?_⟩
  have e : s[off + j] = s.data.toList[off + j]'(by simpa using hlt) := by simp [ByteArray.getElem_eq_getElem_data]
  rw [e]
  rcases h.2 with ⟨rfl, h2⟩ | ⟨rfl, h2⟩
  · simp only [h2, Nat.zero_add]
  · simp only [h2, Nat.add_comm 1 j, List.getElem_cons_succ]
theorem NumS.lead {s : ByteArray} {off : Nat} {l : List UInt8} (h : NumS s off l) (h0 : 0 < s.size) : (off = 0 ∧ (s[0].toNat : Int) ≠ 43 ∧ (s[0].toNat : Int) ≠ 45) ∨ (off = 1 ∧ (s[0].toNat : Int) = 45) := by
  have hf := h.1.first
  have e0 : s[0] = s.data.toList[0]'(by simpa using h0) := by simp [ByteArray.getElem_eq_getElem_data]
  rcases h.2 with ⟨rfl, h2⟩ | ⟨rfl, h2⟩
  · left
    have e : s[0] = l[0]'hf.1 := by rw [e0]; simp only [h2]
    have e2 : l.head? = some (l[0]'hf.1) := List.head?_eq_getElem?.trans (List.getElem?_eq_getElem hf.1)
    refine ⟨rfl, fun h3 => hf.2.2.1 ?_, fun h3 => hf.2.2.2 ?_⟩
    · rw [e2, ← e]
      congr 1
      exact UInt8.toNat_inj.1 (by have : (43 : UInt8).toNat = 43 := rfl
                                  omega)
    · rw [e2, ← e]
      congr 1
      exact UInt8.toNat_inj.1 (by have : (45 : UInt8).toNat = 45 := rfl
                                  omega)
  · right
    refine ⟨rfl, ?_⟩
    rw [e0]
    simp only [h2, List.getElem_cons_zero]
    rfl
end Go.Proofs.YtpajcfkldnbpfaaGreatDoor
namespace Go.Proofs.YtpajcfkldnbpfaaGreatDoor
open Go.RowKit
section
variable {P : Program} {ops : Array Oper} {Q : Exit → Act → World → Prop} {w0 w : World} {a : Act} {o : Oper} {d : Nat} {f : Nat → Int} {nd dp : Int} {ng tr : Bool} {S : World → Prop} {p : Plan}
theorem de_st {k : Bool} {T : Nat} {x y : Operand} {i : Nat} {v : Value} {f' : Nat → Int} {nd' dp' : Int} {ng' tr' : Bool} (hst : DS w0 d w f nd dp ng tr) (ho : o.op = .store T x y) (hx : a.eval x = .pointer (some ⟨d, i, none⟩)) (hy : a.eval y = v) (hv : v.oneCell' = true) (hT : szOf P T 1 = true) (hi : i < 804) (hs : (decL f nd dp ng tr).set i v = decL f' nd' dp' ng' tr')
    (h : ∀ w', DS w0 d w' f' nd' dp' ng' tr' → (k = true → S w') ∧ wpP P ops Q S p (a.put o.dst undef) w') : WE P ops Q S o k p a w := by
  obtain ⟨w', hr, h2⟩ := st_one (P := P) hst (i := 0) (l := decL f nd dp ng tr) (t := 274) (v := v) ho hx hy rfl hT (by rw [decL_len]; exact hi) hv
  rw [hs] at h2
  obtain ⟨h3, h4⟩ := h w' h2
  exact e_skip hr h3 h4
end
def SetR (w0 : World) (d : Nat) (l : List UInt8) (e : Ending) (w' : World) : Prop := ∃ (f : Nat → Int) (ng : Bool), Digs10 f (sc l).nd ∧ (1 ≤ (sc l).nd → f 0 ≠ 48) ∧ e = .returned (.bool true) ∧ DS w0 d w' f (sc l).nd (finDp (sc l)) ng false
set_option maxRecDepth 100000 in
set_option maxHeartbeats 2000000 in
theorem set_any (w0 : World) (d : Nat) (s : ByteArray) (off : Nat) (l : List UInt8) (hN : NumS s off l) (w : World) (hS : DS w0 d w (fun _ => 0) 0 0 false false) : Calls Tryz.prog 155 #[.pointer (some ⟨d, 0, none⟩), .string s] w (SetR w0 d l) := by
  have hlen := hN.1.len
  have hfst := hN.1.first.1
  have hsz := hN.size
  have h0 : 0 < s.size := by omega
  have hst := hS
  have HN := Lib.hid hN
  have al := al272
  clear hS
  have hlead := hN.lead h0
  clear hN
  go_enter Tryz.func155, Tryz.ntmps155
  go_upto_block 0 with ((first | ((with_reducible refine at_load ?_); first | refine dl_ld hst rfl rfl rfl (one_of (by decide +kernel)) (dec_nd _ _ _ _ _) ?_ | refine dl_ld hst rfl rfl rfl (one_of (by decide +kernel)) (dec_dp _ _ _ _ _) ?_ | refine dl_ld hst rfl rfl rfl (one_of (by decide +kernel)) (dec_ng _ _ _ _ _) ?_ | refine dl_ld hst rfl rfl rfl (one_of (by decide +kernel)) (dec_tr _ _ _ _ _) ?_ | refine dl_ld hst rfl rfl rfl (one_of (by decide +kernel)) (dec_d _ _ _ _ _ (by omega)) ?_) | ((with_reducible refine at_store ?_); (first | refine dl_st hst rfl rfl rfl (rfl : _ = Value.int _ _) rfl (sz1_of (by decide +kernel)) (by decide) (dset_nd _ _ _ _ _ _) ?_ | refine dl_st hst rfl rfl rfl (rfl : _ = Value.int _ _) rfl (sz1_of (by decide +kernel)) (by decide) (dset_dp _ _ _ _ _ _) ?_ | refine dl_st hst rfl rfl rfl (rfl : _ = Value.bool _) rfl (sz1_of (by decide +kernel)) (by decide) (dset_tr _ _ _ _ _ _) ?_ | refine dl_st hst rfl rfl rfl (rfl : _ = Value.bool _) rfl (sz1_of (by decide +kernel)) (by decide) (dset_ng _ _ _ _ _ _) ?_ | refine dl_st hst rfl rfl rfl (rfl : _ = Value.int _ _) rfl (sz1_of (by decide +kernel)) (by omega) (dset_d _ _ _ _ _ _ (by omega)) ?_); clear hst; intro w hst)))
  all_goals try (exfalso; omega)
  go_cut [5] (fun i wx => i = .int .i64 off ∧ ∃ ng, Hid (DS w0 d wx (fun _ => 0) 0 0 ng false))
  case first =>
    rcases hlead with ⟨rfl, h43, h45⟩ | ⟨rfl, h45⟩
    · have h43b : ¬ (s[0].toNat = 43) := by omega
      have h45b : ¬ (s[0].toNat = 45) := by omega
      go_wp2_with ((first | ((with_reducible refine at_load ?_); first | refine dl_ld hst rfl rfl rfl (one_of (by decide +kernel)) (dec_nd _ _ _ _ _) ?_ | refine dl_ld hst rfl rfl rfl (one_of (by decide +kernel)) (dec_dp _ _ _ _ _) ?_ | refine dl_ld hst rfl rfl rfl (one_of (by decide +kernel)) (dec_ng _ _ _ _ _) ?_ | refine dl_ld hst rfl rfl rfl (one_of (by decide +kernel)) (dec_tr _ _ _ _ _) ?_ | refine dl_ld hst rfl rfl rfl (one_of (by decide +kernel)) (dec_d _ _ _ _ _ (by omega)) ?_) | ((with_reducible refine at_store ?_); (first | refine dl_st hst rfl rfl rfl (rfl : _ = Value.int _ _) rfl (sz1_of (by decide +kernel)) (by decide) (dset_nd _ _ _ _ _ _) ?_ | refine dl_st hst rfl rfl rfl (rfl : _ = Value.int _ _) rfl (sz1_of (by decide +kernel)) (by decide) (dset_dp _ _ _ _ _ _) ?_ | refine dl_st hst rfl rfl rfl (rfl : _ = Value.bool _) rfl (sz1_of (by decide +kernel)) (by decide) (dset_tr _ _ _ _ _ _) ?_ | refine dl_st hst rfl rfl rfl (rfl : _ = Value.bool _) rfl (sz1_of (by decide +kernel)) (by decide) (dset_ng _ _ _ _ _ _) ?_ | refine dl_st hst rfl rfl rfl (rfl : _ = Value.int _ _) rfl (sz1_of (by decide +kernel)) (by omega) (dset_d _ _ _ _ _ _ (by omega)) ?_); clear hst; intro w hst)))
      go_meet
      case rel => exact ⟨rfl, _, Lib.hid hst⟩
    · have h45b : s[0].toNat = 45 := by omega
      go_wp2_with ((first | ((with_reducible refine at_load ?_); first | refine dl_ld hst rfl rfl rfl (one_of (by decide +kernel)) (dec_nd _ _ _ _ _) ?_ | refine dl_ld hst rfl rfl rfl (one_of (by decide +kernel)) (dec_dp _ _ _ _ _) ?_ | refine dl_ld hst rfl rfl rfl (one_of (by decide +kernel)) (dec_ng _ _ _ _ _) ?_ | refine dl_ld hst rfl rfl rfl (one_of (by decide +kernel)) (dec_tr _ _ _ _ _) ?_ | refine dl_ld hst rfl rfl rfl (one_of (by decide +kernel)) (dec_d _ _ _ _ _ (by omega)) ?_) | ((with_reducible refine at_store ?_); (first | refine dl_st hst rfl rfl rfl (rfl : _ = Value.int _ _) rfl (sz1_of (by decide +kernel)) (by decide) (dset_nd _ _ _ _ _ _) ?_ | refine dl_st hst rfl rfl rfl (rfl : _ = Value.int _ _) rfl (sz1_of (by decide +kernel)) (by decide) (dset_dp _ _ _ _ _ _) ?_ | refine dl_st hst rfl rfl rfl (rfl : _ = Value.bool _) rfl (sz1_of (by decide +kernel)) (by decide) (dset_tr _ _ _ _ _ _) ?_ | refine dl_st hst rfl rfl rfl (rfl : _ = Value.bool _) rfl (sz1_of (by decide +kernel)) (by decide) (dset_ng _ _ _ _ _ _) ?_ | refine dl_st hst rfl rfl rfl (rfl : _ = Value.int _ _) rfl (sz1_of (by decide +kernel)) (by omega) (dset_d _ _ _ _ _ _ (by omega)) ?_); clear hst; intro w hst)))
      go_meet
      case rel => exact ⟨rfl, _, Lib.hid hst⟩
  case rest =>
  clear hlead hst
  obtain ⟨rfl, ng, HL⟩ := hcut
  have hoff : off ≤ 1 := by rcases HN.out.2 with ⟨h, _⟩ | ⟨h, _⟩ <;> omega
  go_wp2_with fail
  go_loopw [5, 6, 7] (fun i dt sd wx => ∃ (j : Nat) (f : Nat → Int) (b : Bool), i = .int .i64 ((off + j : Nat) : Int) ∧ dt = .bool (sc (l.take j)).dot ∧ sd = .bool b ∧ j ≤ l.length ∧ (1 ≤ j → b = true) ∧ Hid (Digs10 f (sc (l.take j)).nd ∧ (1 ≤ (sc (l.take j)).nd → f 0 ≠ 48)) ∧ Hid (DS w0 d wx f (sc (l.take j)).nd (sc (l.take j)).dp ng false)) (fun i _ _ _ => off + l.length - (intOf i).toNat)
  case atStart => exact ⟨0, fun _ => 0, false, rfl, rfl, rfl, Nat.zero_le _, fun h => absurd h (by omega), Lib.hid ⟨fun i h => absurd h (Nat.not_lt_zero _), fun h => absurd h (by simp [sc])⟩, HL⟩
  case round =>
    obtain ⟨j, f, b, rfl, rfl, rfl, hj, hb, HD, HL2⟩ := hrel
    by_cases hjl : j < l.length
    · obtain ⟨hlt, hbyte⟩ := HN.out.at hjl
      have hsucc := sc_succ hjl
      have hby := HN.out.1.byte hjl
      have honce := HN.out.1.once hjl
      have hdt := sc_dot (l.take j)
      have hbd := sc_bound (l.take j)
      rw [List.length_take] at hbd
      have hin : ((off + j : Nat) : Int) < (s.size : Int) := by omega
      have hst := HL2.out
      by_cases h46 : l[j] = 46
      · have hn := honce h46
        have hdf : (sc (l.take j)).dot = false := by rw [hdt]; exact decide_eq_false hn
        have hx : sc (l.take (j + 1)) = ⟨(sc (l.take j)).nd, (sc (l.take j)).nd, true⟩ := by rw [hsucc]; exact if_pos h46
        have HX := Lib.hid hx
        have hj1 : 1 ≤ j := by
          rcases Nat.eq_zero_or_pos j with e | e
          · subst e
            exact absurd (List.head?_eq_getElem?.trans ((List.getElem?_eq_getElem hjl).trans (congrArg some h46))) HN.out.1.first.2.1
          · exact e
        obtain rfl := hb hj1
        have h46b : l[j].toNat = 46 := by rw [h46]; rfl
        clear hsucc hx hby honce hdt h46 hn
        go_wp2_with ((first | ((with_reducible refine at_load ?_); first | refine dl_ld hst rfl rfl rfl (one_of (by decide +kernel)) (dec_nd _ _ _ _ _) ?_ | refine dl_ld hst rfl rfl rfl (one_of (by decide +kernel)) (dec_dp _ _ _ _ _) ?_ | refine dl_ld hst rfl rfl rfl (one_of (by decide +kernel)) (dec_ng _ _ _ _ _) ?_ | refine dl_ld hst rfl rfl rfl (one_of (by decide +kernel)) (dec_tr _ _ _ _ _) ?_ | refine dl_ld hst rfl rfl rfl (one_of (by decide +kernel)) (dec_d _ _ _ _ _ (by omega)) ?_) | ((with_reducible refine at_store ?_); (first | refine dl_st hst rfl rfl rfl (rfl : _ = Value.int _ _) rfl (sz1_of (by decide +kernel)) (by decide) (dset_nd _ _ _ _ _ _) ?_ | refine dl_st hst rfl rfl rfl (rfl : _ = Value.int _ _) rfl (sz1_of (by decide +kernel)) (by decide) (dset_dp _ _ _ _ _ _) ?_ | refine dl_st hst rfl rfl rfl (rfl : _ = Value.bool _) rfl (sz1_of (by decide +kernel)) (by decide) (dset_tr _ _ _ _ _ _) ?_ | refine dl_st hst rfl rfl rfl (rfl : _ = Value.bool _) rfl (sz1_of (by decide +kernel)) (by decide) (dset_ng _ _ _ _ _ _) ?_ | refine dl_st hst rfl rfl rfl (rfl : _ = Value.int _ _) rfl (sz1_of (by decide +kernel)) (by omega) (dset_d _ _ _ _ _ _ (by omega)) ?_); clear hst; intro w hst)))
        go_round
        case rel => exact ⟨j + 1, f, true, (by simp; omega), (by rw [HX.out]), rfl, by omega, fun _ => rfl, by rw [HX.out]; exact HD, by rw [HX.out]; exact Lib.hid hst⟩
        case measure => simp [intOf]; omega
      · obtain ⟨hb1, hb2⟩ := hby.resolve_left h46
        have h46b : ¬ l[j].toNat = 46 := by omega
        have h95 : ¬ l[j].toNat = 95 := by omega
        by_cases h48 : l[j].toNat = 48 ∧ (sc (l.take j)).nd = 0
        · have hx : sc (l.take (j + 1)) = ⟨0, (sc (l.take j)).dp - 1, (sc (l.take j)).dot⟩ := by
            rw [hsucc]
            unfold stp
            rw [if_neg h46, if_pos ⟨UInt8.toNat_inj.1 h48.1, h48.2⟩]
          have HX := Lib.hid hx
          obtain ⟨h48a, h48b⟩ := h48
          rw [h48b] at hst HD
          have c0 := hst.cell (dec_nd _ _ _ _ _)
          clear hsucc hx hby honce hdt h46
          go_wp2_with ((first | ((with_reducible refine at_load ?_); first | refine dl_ld hst rfl rfl rfl (one_of (by decide +kernel)) (dec_nd _ _ _ _ _) ?_ | refine dl_ld hst rfl rfl rfl (one_of (by decide +kernel)) (dec_dp _ _ _ _ _) ?_ | refine dl_ld hst rfl rfl rfl (one_of (by decide +kernel)) (dec_ng _ _ _ _ _) ?_ | refine dl_ld hst rfl rfl rfl (one_of (by decide +kernel)) (dec_tr _ _ _ _ _) ?_ | refine dl_ld hst rfl rfl rfl (one_of (by decide +kernel)) (dec_d _ _ _ _ _ (by omega)) ?_) | ((with_reducible refine at_store ?_); (first | refine dl_st hst rfl rfl rfl (rfl : _ = Value.int _ _) rfl (sz1_of (by decide +kernel)) (by decide) (dset_nd _ _ _ _ _ _) ?_ | refine dl_st hst rfl rfl rfl (rfl : _ = Value.int _ _) rfl (sz1_of (by decide +kernel)) (by decide) (dset_dp _ _ _ _ _ _) ?_ | refine dl_st hst rfl rfl rfl (rfl : _ = Value.bool _) rfl (sz1_of (by decide +kernel)) (by decide) (dset_tr _ _ _ _ _ _) ?_ | refine dl_st hst rfl rfl rfl (rfl : _ = Value.bool _) rfl (sz1_of (by decide +kernel)) (by decide) (dset_ng _ _ _ _ _ _) ?_ | refine dl_st hst rfl rfl rfl (rfl : _ = Value.int _ _) rfl (sz1_of (by decide +kernel)) (by omega) (dset_d _ _ _ _ _ _ (by omega)) ?_); clear hst; intro w hst)))
          go_round
          case rel => exact ⟨j + 1, f, true, (by simp; omega), (by rw [HX.out]), rfl, by omega, fun _ => rfl, by rw [HX.out]; exact HD, by rw [HX.out]; exact Lib.hid hst⟩
          case measure => simp [intOf]; omega
        · have hx : sc (l.take (j + 1)) = ⟨(sc (l.take j)).nd + 1, (sc (l.take j)).dp, (sc (l.take j)).dot⟩ := by
            rw [hsucc]
            unfold stp
            rw [if_neg h46, if_neg (fun h => h48 ⟨by rw [h.1]; rfl, h.2⟩)]
          have HX := Lib.hid hx
          have H48 := Lib.hid h48
          have HN0 := Lib.hid (show 1 ≤ (sc (l.take j)).nd ∨ l[j].toNat ≠ 48 by
            rcases Nat.eq_zero_or_pos (sc (l.take j)).nd with h | h
            · exact .inr fun h2 => h48 ⟨h2, h⟩
            · exact .inl h)
          generalize hnd : (sc (l.take j)).nd = m at *
          clear hsucc hx hby honce hdt h46
          have c0 := hst.cell (dec_nd _ _ _ _ _)
          have hm8 : (m : Int) < 800 := by omega
          have hm0 : (0 : Int) ≤ (m : Int) := by omega
          have hcell : ∀ w', DS w0 d w' f m (sc (l.take j)).dp ng false → w'.cell? ⟨d, 800, none⟩ = some (.int .i64 (m : Int)) := fun w' h => h.cell (dec_nd _ _ _ _ _)
          have HC := Lib.hid hcell
          clear hcell
          by_cases h48c : l[j].toNat = 48
          · have hm1 : 1 ≤ m := HN0.out.resolve_right (fun h => h h48c)
            have hm2 : ¬ (m : Int) = 0 := by omega
            have hm3 : ¬ m = 0 := by omega
            go_upto_region 25 with ((first | ((with_reducible refine at_load ?_); first | refine dl_ld hst rfl rfl rfl (one_of (by decide +kernel)) (dec_nd _ _ _ _ _) ?_ | refine dl_ld hst rfl rfl rfl (one_of (by decide +kernel)) (dec_dp _ _ _ _ _) ?_ | refine dl_ld hst rfl rfl rfl (one_of (by decide +kernel)) (dec_ng _ _ _ _ _) ?_ | refine dl_ld hst rfl rfl rfl (one_of (by decide +kernel)) (dec_tr _ _ _ _ _) ?_ | refine dl_ld hst rfl rfl rfl (one_of (by decide +kernel)) (dec_d _ _ _ _ _ (by omega)) ?_) | ((with_reducible refine at_store ?_); (first | refine dl_st hst rfl rfl rfl (rfl : _ = Value.int _ _) rfl (sz1_of (by decide +kernel)) (by decide) (dset_nd _ _ _ _ _ _) ?_ | refine dl_st hst rfl rfl rfl (rfl : _ = Value.int _ _) rfl (sz1_of (by decide +kernel)) (by decide) (dset_dp _ _ _ _ _ _) ?_ | refine dl_st hst rfl rfl rfl (rfl : _ = Value.bool _) rfl (sz1_of (by decide +kernel)) (by decide) (dset_tr _ _ _ _ _ _) ?_ | refine dl_st hst rfl rfl rfl (rfl : _ = Value.bool _) rfl (sz1_of (by decide +kernel)) (by decide) (dset_ng _ _ _ _ _ _) ?_ | refine dl_st hst rfl rfl rfl (rfl : _ = Value.int _ _) rfl (sz1_of (by decide +kernel)) (by omega) (dset_d _ _ _ _ _ _ (by omega)) ?_); clear hst; intro w hst)))
            (refine wp_plan (fun wy => ∃ g, DS w0 d wy g m (sc (l.take j)).dp ng false) [0, 1, 2, 3, 4, 5, 6, 7, 8, 9, 10] (.q 0 (.q 1 (.q 2 (.q 3 (.q 4 (.q 5 (.q 6 (.q 7 (.q 8 (.q 9 (.q 10 (.e 11 true (.fin))))))))))))) mixed (by kernel_rfl) (by kernel_rfl) (by kernel_rfl) (fun d v c a w h => by cases d <;> exact h) ⟨f, hst.drew⟩ ?_; replace hst := hst.drew; (repeat ((refine AQ ?_); first | (refine p_ldc1 (q := ⟨d, 800, none⟩) (fun w hS => by obtain ⟨g, hS⟩ := hS; exact DS.cell hS (dec_nd _ _ _ _ _)) rfl rfl rfl (one_of (by decide +kernel)) ?_; go_frame) | (refine QV ?_; go_frame))); refine at_e (by simp only [List.getElem?_toArray, List.getElem?_cons_succ, List.getElem?_cons_zero]; rfl) rfl ?_; refine de_st hst rfl rfl (rfl : _ = Value.int _ _) rfl (sz1_of (by decide +kernel)) (by omega) (dset_d _ _ _ _ _ _ (by omega)) ?_; clear hst; intro w hst; refine ⟨fun _ => ⟨_, hst⟩, ?_⟩; unfold wpP; go_wp2_with ((first | ((with_reducible refine at_load ?_); first | refine dl_ld hst rfl rfl rfl (one_of (by decide +kernel)) (dec_nd _ _ _ _ _) ?_ | refine dl_ld hst rfl rfl rfl (one_of (by decide +kernel)) (dec_dp _ _ _ _ _) ?_ | refine dl_ld hst rfl rfl rfl (one_of (by decide +kernel)) (dec_ng _ _ _ _ _) ?_ | refine dl_ld hst rfl rfl rfl (one_of (by decide +kernel)) (dec_tr _ _ _ _ _) ?_ | refine dl_ld hst rfl rfl rfl (one_of (by decide +kernel)) (dec_d _ _ _ _ _ (by omega)) ?_) | ((with_reducible refine at_store ?_); (first | refine dl_st hst rfl rfl rfl (rfl : _ = Value.int _ _) rfl (sz1_of (by decide +kernel)) (by decide) (dset_nd _ _ _ _ _ _) ?_ | refine dl_st hst rfl rfl rfl (rfl : _ = Value.int _ _) rfl (sz1_of (by decide +kernel)) (by decide) (dset_dp _ _ _ _ _ _) ?_ | refine dl_st hst rfl rfl rfl (rfl : _ = Value.bool _) rfl (sz1_of (by decide +kernel)) (by decide) (dset_tr _ _ _ _ _ _) ?_ | refine dl_st hst rfl rfl rfl (rfl : _ = Value.bool _) rfl (sz1_of (by decide +kernel)) (by decide) (dset_ng _ _ _ _ _ _) ?_ | refine dl_st hst rfl rfl rfl (rfl : _ = Value.int _ _) rfl (sz1_of (by decide +kernel)) (by omega) (dset_d _ _ _ _ _ _ (by omega)) ?_); clear hst; intro w hst))); go_round)
            case rel =>
              have HU : Digs10 (upd f m l[j].toNat) (m + 1) ∧ (1 ≤ m + 1 → upd f m l[j].toNat 0 ≠ 48) := by
                refine ⟨HD.out.1.upd ⟨hb1, hb2⟩, fun _ => ?_⟩
                unfold upd
                rw [if_neg (by omega)]
                exact HD.out.2 hm1
              exact ⟨j + 1, upd f m l[j].toNat, true, (by simp; omega), (by rw [HX.out]), rfl, by omega, fun _ => rfl, by rw [HX.out]; exact Lib.hid HU, by rw [HX.out]; exact Lib.hid (by rw [← hbyte]; exact hst)⟩
            case measure => simp [intOf]; omega
          · go_upto_region 25 with ((first | ((with_reducible refine at_load ?_); first | refine dl_ld hst rfl rfl rfl (one_of (by decide +kernel)) (dec_nd _ _ _ _ _) ?_ | refine dl_ld hst rfl rfl rfl (one_of (by decide +kernel)) (dec_dp _ _ _ _ _) ?_ | refine dl_ld hst rfl rfl rfl (one_of (by decide +kernel)) (dec_ng _ _ _ _ _) ?_ | refine dl_ld hst rfl rfl rfl (one_of (by decide +kernel)) (dec_tr _ _ _ _ _) ?_ | refine dl_ld hst rfl rfl rfl (one_of (by decide +kernel)) (dec_d _ _ _ _ _ (by omega)) ?_) | ((with_reducible refine at_store ?_); (first | refine dl_st hst rfl rfl rfl (rfl : _ = Value.int _ _) rfl (sz1_of (by decide +kernel)) (by decide) (dset_nd _ _ _ _ _ _) ?_ | refine dl_st hst rfl rfl rfl (rfl : _ = Value.int _ _) rfl (sz1_of (by decide +kernel)) (by decide) (dset_dp _ _ _ _ _ _) ?_ | refine dl_st hst rfl rfl rfl (rfl : _ = Value.bool _) rfl (sz1_of (by decide +kernel)) (by decide) (dset_tr _ _ _ _ _ _) ?_ | refine dl_st hst rfl rfl rfl (rfl : _ = Value.bool _) rfl (sz1_of (by decide +kernel)) (by decide) (dset_ng _ _ _ _ _ _) ?_ | refine dl_st hst rfl rfl rfl (rfl : _ = Value.int _ _) rfl (sz1_of (by decide +kernel)) (by omega) (dset_d _ _ _ _ _ _ (by omega)) ?_); clear hst; intro w hst)))
            (refine wp_plan (fun wy => ∃ g, DS w0 d wy g m (sc (l.take j)).dp ng false) [0, 1, 2, 3, 4, 5, 6, 7, 8, 9, 10] (.q 0 (.q 1 (.q 2 (.q 3 (.q 4 (.q 5 (.q 6 (.q 7 (.q 8 (.q 9 (.q 10 (.e 11 true (.fin))))))))))))) mixed (by kernel_rfl) (by kernel_rfl) (by kernel_rfl) (fun d v c a w h => by cases d <;> exact h) ⟨f, hst.drew⟩ ?_; replace hst := hst.drew; (repeat ((refine AQ ?_); first | (refine p_ldc1 (q := ⟨d, 800, none⟩) (fun w hS => by obtain ⟨g, hS⟩ := hS; exact DS.cell hS (dec_nd _ _ _ _ _)) rfl rfl rfl (one_of (by decide +kernel)) ?_; go_frame) | (refine QV ?_; go_frame))); refine at_e (by simp only [List.getElem?_toArray, List.getElem?_cons_succ, List.getElem?_cons_zero]; rfl) rfl ?_; refine de_st hst rfl rfl (rfl : _ = Value.int _ _) rfl (sz1_of (by decide +kernel)) (by omega) (dset_d _ _ _ _ _ _ (by omega)) ?_; clear hst; intro w hst; refine ⟨fun _ => ⟨_, hst⟩, ?_⟩; unfold wpP; go_wp2_with ((first | ((with_reducible refine at_load ?_); first | refine dl_ld hst rfl rfl rfl (one_of (by decide +kernel)) (dec_nd _ _ _ _ _) ?_ | refine dl_ld hst rfl rfl rfl (one_of (by decide +kernel)) (dec_dp _ _ _ _ _) ?_ | refine dl_ld hst rfl rfl rfl (one_of (by decide +kernel)) (dec_ng _ _ _ _ _) ?_ | refine dl_ld hst rfl rfl rfl (one_of (by decide +kernel)) (dec_tr _ _ _ _ _) ?_ | refine dl_ld hst rfl rfl rfl (one_of (by decide +kernel)) (dec_d _ _ _ _ _ (by omega)) ?_) | ((with_reducible refine at_store ?_); (first | refine dl_st hst rfl rfl rfl (rfl : _ = Value.int _ _) rfl (sz1_of (by decide +kernel)) (by decide) (dset_nd _ _ _ _ _ _) ?_ | refine dl_st hst rfl rfl rfl (rfl : _ = Value.int _ _) rfl (sz1_of (by decide +kernel)) (by decide) (dset_dp _ _ _ _ _ _) ?_ | refine dl_st hst rfl rfl rfl (rfl : _ = Value.bool _) rfl (sz1_of (by decide +kernel)) (by decide) (dset_tr _ _ _ _ _ _) ?_ | refine dl_st hst rfl rfl rfl (rfl : _ = Value.bool _) rfl (sz1_of (by decide +kernel)) (by decide) (dset_ng _ _ _ _ _ _) ?_ | refine dl_st hst rfl rfl rfl (rfl : _ = Value.int _ _) rfl (sz1_of (by decide +kernel)) (by omega) (dset_d _ _ _ _ _ _ (by omega)) ?_); clear hst; intro w hst))); go_round)
            case rel =>
              have HU : Digs10 (upd f m l[j].toNat) (m + 1) ∧ (1 ≤ m + 1 → upd f m l[j].toNat 0 ≠ 48) := by
                refine ⟨HD.out.1.upd ⟨hb1, hb2⟩, fun _ => ?_⟩
                unfold upd
                split
                · omega
                · exact HD.out.2 (by omega)
              exact ⟨j + 1, upd f m l[j].toNat, true, (by simp; omega), (by rw [HX.out]), rfl, by omega, fun _ => rfl, by rw [HX.out]; exact Lib.hid HU, by rw [HX.out]; exact Lib.hid (by rw [← hbyte]; exact hst)⟩
            case measure => simp [intOf]; omega
    · have e : j = l.length := by omega
      subst e
      obtain rfl := hb hfst
      rw [List.take_length] at HD HL2
      have hst := HL2.out
      have hbd := sc_bound l
      have hin : ¬ ((off + l.length : Nat) : Int) < (s.size : Int) := by omega
      have HF := Lib.hid HD.out
      clear HL2 HD
      cases hdt : (sc l).dot
      · have hfin : finDp (sc l) = (sc l).nd := by unfold finDp; rw [hdt]; rfl
        rw [List.take_length, hdt]
        have c0 := hst.cell (dec_nd _ _ _ _ _)
        go_wp2_with ((first | ((with_reducible refine at_load ?_); first | refine dl_ld hst rfl rfl rfl (one_of (by decide +kernel)) (dec_nd _ _ _ _ _) ?_ | refine dl_ld hst rfl rfl rfl (one_of (by decide +kernel)) (dec_dp _ _ _ _ _) ?_ | refine dl_ld hst rfl rfl rfl (one_of (by decide +kernel)) (dec_ng _ _ _ _ _) ?_ | refine dl_ld hst rfl rfl rfl (one_of (by decide +kernel)) (dec_tr _ _ _ _ _) ?_ | refine dl_ld hst rfl rfl rfl (one_of (by decide +kernel)) (dec_d _ _ _ _ _ (by omega)) ?_) | ((with_reducible refine at_store ?_); (first | refine dl_st hst rfl rfl rfl (rfl : _ = Value.int _ _) rfl (sz1_of (by decide +kernel)) (by decide) (dset_nd _ _ _ _ _ _) ?_ | refine dl_st hst rfl rfl rfl (rfl : _ = Value.int _ _) rfl (sz1_of (by decide +kernel)) (by decide) (dset_dp _ _ _ _ _ _) ?_ | refine dl_st hst rfl rfl rfl (rfl : _ = Value.bool _) rfl (sz1_of (by decide +kernel)) (by decide) (dset_tr _ _ _ _ _ _) ?_ | refine dl_st hst rfl rfl rfl (rfl : _ = Value.bool _) rfl (sz1_of (by decide +kernel)) (by decide) (dset_ng _ _ _ _ _ _) ?_ | refine dl_st hst rfl rfl rfl (rfl : _ = Value.int _ _) rfl (sz1_of (by decide +kernel)) (by omega) (dset_d _ _ _ _ _ _ (by omega)) ?_); clear hst; intro w hst)))
        exact ret_tmp rfl rfl rfl ⟨f, ng, HF.out.1, HF.out.2, rfl, by rw [hfin]; exact hst⟩
      · have hfin : finDp (sc l) = (sc l).dp := by unfold finDp; rw [hdt]; rfl
        rw [List.take_length, hdt]
        go_wp2_with ((first | ((with_reducible refine at_load ?_); first | refine dl_ld hst rfl rfl rfl (one_of (by decide +kernel)) (dec_nd _ _ _ _ _) ?_ | refine dl_ld hst rfl rfl rfl (one_of (by decide +kernel)) (dec_dp _ _ _ _ _) ?_ | refine dl_ld hst rfl rfl rfl (one_of (by decide +kernel)) (dec_ng _ _ _ _ _) ?_ | refine dl_ld hst rfl rfl rfl (one_of (by decide +kernel)) (dec_tr _ _ _ _ _) ?_ | refine dl_ld hst rfl rfl rfl (one_of (by decide +kernel)) (dec_d _ _ _ _ _ (by omega)) ?_) | ((with_reducible refine at_store ?_); (first | refine dl_st hst rfl rfl rfl (rfl : _ = Value.int _ _) rfl (sz1_of (by decide +kernel)) (by decide) (dset_nd _ _ _ _ _ _) ?_ | refine dl_st hst rfl rfl rfl (rfl : _ = Value.int _ _) rfl (sz1_of (by decide +kernel)) (by decide) (dset_dp _ _ _ _ _ _) ?_ | refine dl_st hst rfl rfl rfl (rfl : _ = Value.bool _) rfl (sz1_of (by decide +kernel)) (by decide) (dset_tr _ _ _ _ _ _) ?_ | refine dl_st hst rfl rfl rfl (rfl : _ = Value.bool _) rfl (sz1_of (by decide +kernel)) (by decide) (dset_ng _ _ _ _ _ _) ?_ | refine dl_st hst rfl rfl rfl (rfl : _ = Value.int _ _) rfl (sz1_of (by decide +kernel)) (by omega) (dset_d _ _ _ _ _ _ (by omega)) ?_); clear hst; intro w hst)))
        exact ret_tmp rfl rfl rfl ⟨f, ng, HF.out.1, HF.out.2, rfl, by rw [hfin]; exact hst⟩
end Go.Proofs.YtpajcfkldnbpfaaGreatDoor
