/- Numbers as the package reads them: the small functions. Numbers as the package reads them: ToNumber at integers; Integer. toNumber. Integers and floats as nodes. -/
import Derived.Test.YtpajcfkldnbpfaaGreatDoorV16
import Derived.Test.YtpajcfkldnbpfaaGreatDoorV24
import Derived.Lib.ItoaMem
set_option linter.unusedSimpArgs false
set_option linter.unusedVariables false
namespace Go.Proofs.YtpajcfkldnbpfaaGreatDoor
open Go.RowKit
theorem snocInd {α : Type} {p : List α → Prop} (h0 : p []) (h1 : ∀ l a, p l → p (l ++ [a])) (l : List α) : p l := by
  have h : ∀ l : List α, p l.reverse := by
    intro l
    induction l with
    | nil => exact h0
    | cons a l ih => rw [List.reverse_cons]; exact h1 _ _ ih
  have := h l.reverse
  rwa [List.reverse_reverse] at this
def Digs (l : List UInt8) : Prop := ∀ c ∈ l, 48 ≤ c.toNat ∧ c.toNat ≤ 57
def valD (l : List UInt8) : Nat := l.foldl (fun a c => a * 10 + (c.toNat - 48)) 0
theorem Digs.of_dgs {s : ByteArray} {a b : Int} (h : dgsB s a b = true) : Digs s.data.toList := by
  unfold dgsB at h
  simp only [Bool.and_eq_true] at h
  intro c hc
  have h1 := List.all_eq_true.1 h.1.1 c hc
  unfold digB at h1
  simp only [Bool.and_eq_true, decide_eq_true_eq] at h1
  omega
theorem valD_snoc (l : List UInt8) (c : UInt8) : valD (l ++ [c]) = valD l * 10 + (c.toNat - 48) := by simp [valD]
theorem valD_pos : ∀ {l : List UInt8}, Digs l → l ≠ [] → l.head? ≠ some 48 → 1 ≤ valD l := by
  intro l
  refine snocInd (p := fun l => Digs l → l ≠ [] → l.head? ≠ some 48 → 1 ≤ valD l) ?_ ?_ l
  ·  intro _ h; exact absurd rfl h
  · intro l c ih
    intro hd _ h48
    rw [valD_snoc]
    by_cases hl : l = []
    · subst hl
      have h1 := hd c (by simp)
      have h2 : c ≠ 48 := fun e => h48 (by simp [e])
      have h3 : c.toNat ≠ 48 := fun e => h2 (UInt8.toNat_inj.1 e)
      omega
    · have h1 := ih (fun x hx => hd x (by simp [hx])) hl (fun e => h48 (by rw [List.head?_append, e]; rfl))
      omega
theorem decDigits_val : ∀ {l : List UInt8}, Digs l → l ≠ [] → (1 < l.length → l.head? ≠ some 48) → Lib.decDigits (valD l) = l := by
  intro l
  refine snocInd (p := fun l => Digs l → l ≠ [] → (1 < l.length → l.head? ≠ some 48) → Lib.decDigits (valD l) = l) ?_ ?_ l
  ·  intro _ h; exact absurd rfl h
  · intro l c ih
    intro hd _ h48
    have hc := hd c (by simp)
    have hc2 : UInt8.ofNat (48 + (c.toNat - 48)) = c := by rw [show 48 + (c.toNat - 48) = c.toNat by omega, UInt8.ofNat_toNat]
    rw [valD_snoc, Lib.decDigits]
    by_cases hl : l = []
    · subst hl
      rw [dif_pos (by simp [valD]; omega)]
      simp [valD, hc2]
    · have hd' : Digs l := fun x hx => hd x (by simp [hx])
      have hne : l.head? ≠ some 48 := fun e => h48 (by simp; exact List.length_pos_iff.2 hl) (by rw [List.head?_append, e]; rfl)
      have hp := valD_pos hd' hl hne
      rw [dif_neg (by omega), show (valD l * 10 + (c.toNat - 48)) / 10 = valD l by omega, show (valD l * 10 + (c.toNat - 48)) % 10 = c.toNat - 48 by omega, hc2, ih hd' hl (fun _ => hne)]
theorem valD_lt : ∀ {l : List UInt8}, Digs l → valD l < 10 ^ l.length := by
  intro l
  refine snocInd (p := fun l => Digs l → valD l < 10 ^ l.length) ?_ ?_ l
  ·  intro _; decide
  · intro l c ih
    intro hd
    have h1 := ih (fun x hx => hd x (by simp [hx]))
    have hc := hd c (by simp)
    rw [valD_snoc, List.length_append, List.length_singleton, Nat.pow_succ]
    omega
theorem parseUintM_val (M : Nat) (hM : 10 ^ 18 ≤ M) : ∀ (l : List UInt8) (acc : Nat), Digs l → (acc + 1) * 10 ^ l.length ≤ 10 ^ 18 → Lib.parseUintM M acc l = .ok (l.foldl (fun a c => a * 10 + (c.toNat - 48)) acc)
  | [], acc, _, _ => rfl
  | c :: r, acc, hd, hb => by
    have hc := hd c (by simp)
    have h0 : 1 ≤ 10 ^ r.length := Nat.one_le_pow _ _ (by decide)
    rw [List.length_cons, Nat.pow_succ] at hb
    have h1 : (acc * 10 + (c.toNat - 48) + 1) * 10 ^ r.length ≤ 10 ^ 18 := by
      have h2 : (acc * 10 + (c.toNat - 48) + 1) * 10 ^ r.length ≤ ((acc + 1) * 10) * 10 ^ r.length := Nat.mul_le_mul_right _ (by omega)
      have h3 : ((acc + 1) * 10) * 10 ^ r.length = (acc + 1) * (10 ^ r.length * 10) := by rw [Nat.mul_assoc, Nat.mul_comm 10]
      omega
    have h4 : acc * 10 + (c.toNat - 48) + 1 ≤ 10 ^ 18 := Nat.le_trans (Nat.le_mul_of_pos_right _ h0) h1
    rw [Lib.parseUintM, if_pos hc, if_neg (by omega), if_neg (by omega)]
    exact parseUintM_val M hM r _ (fun x hx => hd x (by simp [hx])) h1
theorem parseUint_val {l : List UInt8} (hd : Digs l) (h0 : l ≠ []) (hl : l.length ≤ 18) : Lib.parseUintB 64 l = .ok (valD l) := by
  unfold Lib.parseUintB
  rw [if_neg h0]
  exact parseUintM_val _ (by decide) l 0 hd (by rw [Nat.zero_add, Nat.one_mul]; exact Nat.pow_le_pow_right (by decide) hl)
theorem parseInt_neg {l : List UInt8} (hd : Digs l) (h0 : l ≠ []) (hl : l.length ≤ 18) : Lib.parseIntB 64 (45 :: l) = .ok (-(valD l : Int)) := by
  have h1 := parseUint_val hd h0 hl
  have h2 := valD_lt hd
  have h3 : 10 ^ l.length ≤ 10 ^ 18 := Nat.pow_le_pow_right (by decide) hl
  have h4 : ¬ (2 ^ (64 - 1) < valD l) := by omega
  simp [Lib.parseIntB, h1]
  omega
set_option maxHeartbeats 1000000 in
theorem count_any (s : ByteArray) (hs : s.size ≤ 1000) (w : World) : Calls Tryz.prog 184 #[.string s, .string ⟨#[46]⟩] w fun e w' => e = .returned (.int .i64 ((s.data.toList.count 46 : Nat) : Int)) ∧ w = w' := by
  go_enter Tryz.func184, Tryz.ntmps184
  go_wp2
  go_loopw [5, 6] (fun c i wx => ∃ n : Nat, i = .int .i64 n ∧ n ≤ s.size ∧ c = .int .i64 (((s.data.toList.take n).count 46 : Nat) : Int) ∧ w = wx) (fun _ i _ => s.size - (intOf i).toNat)
  case atStart => exact ⟨0, rfl, Nat.zero_le _, rfl, rfl⟩
  case round =>
    obtain ⟨n, rfl, hn, rfl, rfl⟩ := hrel
    by_cases h1 : (n : Int) + 1 ≤ s.size
    · have hlt : n < s.size := by omega
      have hg : s.data.toList[n]? = some s[n] := by rw [List.getElem?_eq_getElem (by simpa using hlt)]; rfl
      have hcn : (s.data.toList.take n).count 46 ≤ n := Nat.le_trans List.count_le_length (by simp; omega)
      have ht : s.data.toList.take (n + 1) = s.data.toList.take n ++ [s[n]] := by rw [List.take_add_one, hg]; rfl
      have hx : (s.extract n (n + 1)).data.toList = [s[n]] := by
        rw [toList_extract, show n + 1 - n = 1 by omega, List.take_one, List.head?_drop, hg]
        rfl
      have HT := Lib.hid (And.intro ht hx)
      clear ht hx hg
      by_cases h2 : s[n] = 46
      · have hb : ((s.extract n (n + 1)).toList == [46]) = true := by rw [Lib.toList_data, HT.out.2, h2]; rfl
        have H2 := Lib.hid h2
        clear h2
        go_wp2
        go_round
        case rel => exact ⟨n + 1, by rw [show (n : Int) + 1 = ((n + 1 : Nat) : Int) by omega], by omega, by rw [HT.out.1, List.count_append, H2.out]; simp, trivial⟩
        case measure => simp [intOf]; omega
      · have hb : ((s.extract n (n + 1)).toList == [46]) = false := by rw [Lib.toList_data, HT.out.2]; simpa using h2
        have H2 := Lib.hid h2
        clear h2
        go_wp2
        go_round
        case rel => exact ⟨n + 1, by rw [show (n : Int) + 1 = ((n + 1 : Nat) : Int) by omega], by omega, by rw [HT.out.1, List.count_append, List.count_singleton]; simp [H2.out], trivial⟩
        case measure => simp [intOf]; omega
    · have e : n = s.size := by omega
      subst e
      go_wp2
      refine ret_tmp rfl rfl rfl ⟨?_, rfl⟩
      simp [List.take_of_length_le]
end Go.Proofs.YtpajcfkldnbpfaaGreatDoor
namespace Go.Proofs.YtpajcfkldnbpfaaGreatDoor
open Go.RowKit
set_option maxRecDepth 100000 in
set_option maxHeartbeats 1000000 in
theorem index_none (s : ByteArray) (hs : s.size ≤ 1000) (hn : ∀ c ∈ s.data.toList, c ≠ 95) (w : World) : Calls Tryz.prog 201 #[.string s, .string ⟨#[95]⟩] w fun e w' => e = .returned (.int .i64 (-1)) ∧ w = w' := by
  go_enter Tryz.func201, Tryz.ntmps201
  go_wp2
  go_loopw [5] (fun i wx => ∃ n : Nat, i = .int .i64 n ∧ n ≤ s.size ∧ w = wx) (fun i _ => s.size - (intOf i).toNat)
  case atStart => exact ⟨0, rfl, Nat.zero_le _, rfl⟩
  case round =>
    obtain ⟨n, rfl, hn2, rfl⟩ := hrel
    by_cases h1 : (n : Int) + 1 ≤ s.size
    · have hlt : n < s.size := by omega
      have hg : s.data.toList[n]? = some s[n] := by rw [List.getElem?_eq_getElem (by simpa using hlt)]; rfl
      have hx : (s.extract n (n + 1)).data.toList = [s[n]] := by
        rw [toList_extract, show n + 1 - n = 1 by omega, List.take_one, List.head?_drop, hg]
        rfl
      have hne : s[n] ≠ 95 := hn _ (List.mem_of_getElem? hg)
      have hb : ((s.extract n (n + 1)).toList == [95]) = false := by rw [Lib.toList_data, hx]; simpa using hne
      clear hx hg hne
      go_wp2
      go_round
      case rel => exact ⟨n + 1, by rw [show (n : Int) + 1 = ((n + 1 : Nat) : Int) by omega], by omega, trivial⟩
      case measure => simp [intOf]; omega
    · go_wp2
      exact ret_tmp rfl rfl rfl ⟨rfl, rfl⟩
section
variable {P : Program} {ops : Array Oper} {rest : List Oper} {Q : Exit → Act → World → Prop} {B : Nat} {Ts : Ch} {w0 w : World} {L : Rws} {a : Act} {o : Oper}
theorem at_appendS {d : Option Tmp} {ty t u : TypeId} {x y : Operand} {ps : String} {af : Array Edge} (h : WL P ops Q (⟨d, .call { callee := .builtin .append, args := #[x, y], argTypes := #[t, u] }, ty, ps, af, none⟩ :: rest) a w) : wpList P ops Q (⟨d, .call { callee := .builtin .append, args := #[x, y], argTypes := #[t, u] }, ty, ps, af, none⟩ :: rest) a w := h
theorem wl_appStr (hst : St B Ts w0 w L) {s x : Operand} {t u e : Nat} {i : TypeInfo} {z : Value} {str : ByteArray} (hg : o.guard = none) (ho : o.op = .call { callee := .builtin .append, args := #[s, x], argTypes := #[t, u] }) (hs : a.eval s = .slice none 0 0) (hx : a.eval x = .string str)
    (ht : P.underlying t = some (.slice e)) (hu : P.underlying u = some .string) (hi : P.info? e = some i) (hz : i.zero = some z) (h0 : 0 < str.size) (h63 : (str.size : Int) ≤ 9223372036854775807) (h48 : str.size * i.bytes ≤ 281474976710656)
    (h : ∀ b cap l' w', w0.heap.size ≤ b → St B Ts w0 w' ((some b, str.data.toList.map (fun c => Value.int .u8 (c.toNat : Nat)) ++ l', e) :: L) → wpList P ops Q rest (a.put o.dst (.slice (some ⟨b, 0, none⟩) str.size cap)) w') : WL P ops Q (o :: rest) a w := by
  have hr := run_append_nil_string (P := P) (w := w) t u o.type e i z ht hu hi hz str h0 h63 h48
  have hrun : (execOp a.eval o).run P w = .ok (.value (.slice (some ⟨w.heap.size, 0, none⟩) str.size (grownCap w str.size 0 e))) (w.drew.alloc (.cells (str.data.map (fun b => Value.int .u8 b.toNat) ++ Builtin.zeroCells z.cells (grownCap w str.size 0 e - str.size)) e)) := by
    simp [execOp, ho, resolve, invoke, builtin, hs, hx, hr]
  refine wl_val hg hrun (h _ _ (Builtin.zeroCells z.cells (grownCap w str.size 0 e - str.size)).toList _ hst.kp.size ?_)
  have hn := hst.drew.new (str.data.toList.map (fun c => Value.int .u8 (c.toNat : Nat)) ++ (Builtin.zeroCells z.cells (grownCap w str.size 0 e - str.size)).toList) e
  have he : (str.data.toList.map (fun c => Value.int .u8 (c.toNat : Nat)) ++ (Builtin.zeroCells z.cells (grownCap w str.size 0 e - str.size)).toList).toArray = str.data.map (fun b => Value.int .u8 (b.toNat : Nat)) ++ Builtin.zeroCells z.cells (grownCap w str.size 0 e - str.size) := by
    apply Array.ext'
    simp
  rw [he] at hn
  exact hn
end
def ReplR (s : ByteArray) (w : World) (e : Ending) (w' : World) : Prop := e = .returned (.string s) ∧ Below w.heap.size w w'
set_option maxRecDepth 100000 in
set_option maxHeartbeats 1000000 in
theorem replace_none (s : ByteArray) (h0 : 0 < s.size) (hs : s.size ≤ 1000) (hn : ∀ c ∈ s.data.toList, c ≠ 95) (w0 : World) : Calls Tryz.prog 185 #[.string s, .string ⟨#[95]⟩, .string ByteArray.empty] w0 (ReplR s w0) := by
  go_enter Tryz.func185, Tryz.ntmps185
  go_wp2
  go_loopw [0, 7] (fun x o wx => x = .string s ∧ o = .slice none 0 0 ∧ w0 = wx) (fun _ _ _ => 0)
  case atStart => exact ⟨rfl, rfl, rfl⟩
  case round =>
    obtain ⟨rfl, rfl, rfl⟩ := hrel
    go_wp2_with fail
    refine (index_none s hs hn _).mono ?_
    rintro e w1 ⟨rfl, rfl⟩
    obtain ⟨-, i5, z5, hi5, hz5, -, hby5, -⟩ := elOf_spec el213
    have hst := St.nil w0.heap.size ⟨[], []⟩ w0 (Nat.le_refl _)
    have hlen : s.data.toList.length = s.size := by simp
    go_wp2_with ((with_reducible refine at_appendS ?_); refine wl_appStr hst rfl rfl rfl rfl Tryz.underlying213 Tryz.underlying9 hi5 hz5 h0 (by omega) (by rw [hby5]; omega) ?_; clear hst; intro b cap l' w hlb hst; refine Hid.out ?_)
    have hcv : (convert 213 9 (.slice (some ⟨b, 0, none⟩) s.size cap)).run Tryz.prog w = .ok (.string s) w := by
      have h5 := run_convert_bytes_back (P := Tryz.prog) w 213 9 5 ⟨b, 0, none⟩ cap s.data.toList Tryz.underlying213 Tryz.underlying5 Tryz.underlying9 (fun j hj => by
        rw [add_lit, Nat.zero_add]
        exact (hst.blk (b := b) (by (repeat' (first | exact List.Mem.head _ | apply List.Mem.tail)); done)).cell (by rw [List.getElem?_append_left (by simpa using hj), List.getElem?_map, List.getElem?_eq_getElem hj]; rfl))
      rw [hlen] at h5
      exact h5
    refine Lib.hid ?_
    clear hlen hi5 hz5 hby5
    go_wp2_with fail
    exact ret_tmp rfl rfl rfl ⟨rfl, hst.kp.below⟩
end Go.Proofs.YtpajcfkldnbpfaaGreatDoor
namespace Go.Proofs.YtpajcfkldnbpfaaGreatDoor
open Go.RowKit
theorem hp_any (s p : ByteArray) (b : Bool) (w : World) (h : Lib.hasPrefix s.data.toList p.data.toList = b) : Calls Tryz.prog 183 #[.string s, .string p] w fun e w' => e = .returned (.bool b) ∧ w = w' := by
  refine (Tryz.strings_HasPrefix s p w).mono ?_
  rintro e w' ⟨rfl, rfl⟩
  exact ⟨by rw [h], rfl⟩
theorem tp_any (s p r : ByteArray) (w : World) (h : Lib.trimPrefix s.data.toList p.data.toList = r.data.toList) : Calls Tryz.prog 186 #[.string s, .string p] w fun e w' => e = .returned (.string r) ∧ w = w' := by
  refine (Tryz.strings_TrimPrefix s p w).mono ?_
  rintro e w' ⟨rfl, rfl⟩
  exact ⟨by rw [h], rfl⟩
theorem count_is (s : ByteArray) (hs : s.size ≤ 1000) (k : Int) (h : ((s.data.toList.count 46 : Nat) : Int) = k) (w : World) : Calls Tryz.prog 184 #[.string s, .string ⟨#[46]⟩] w fun e w' => e = .returned (.int .i64 k) ∧ w = w' := by
  subst h
  exact count_any s hs w
theorem np {l p : List UInt8} {x : UInt8} (hx : x ∈ p) (hl : ∀ c ∈ l, c ≠ x) : Lib.hasPrefix l p = false := by
  cases h : Lib.hasPrefix l p with
  | false => rfl
  | true =>
    unfold Lib.hasPrefix at h
    have h1 := (List.isPrefixOf_iff_prefix.1 h).subset hx
    exact absurd rfl (hl x h1)
theorem tp_none {l p : List UInt8} {x : UInt8} (hx : x ∈ p) (hl : ∀ c ∈ l, c ≠ x) : Lib.trimPrefix l p = l := by
  unfold Lib.trimPrefix
  rw [np hx hl]
  rfl
theorem minus_eq (t : ByteArray) : (⟨#[45]⟩ : ByteArray) ++ t = minus t := by
  apply ByteArray.ext
  apply Array.ext'
  simp [minus]
theorem minus_size (t : ByteArray) : (minus t).size = t.size + 1 := by
  have h : (minus t).data.toList.length = t.data.toList.length + 1 := by rw [minus_list]; rfl
  simpa using h
theorem Digs.ne {l : List UInt8} (h : Digs l) {x : UInt8} (hx : x.toNat < 48 ∨ 57 < x.toNat) : ∀ c ∈ l, c ≠ x := fun c hc e => by
  have := h c hc
  subst e
  omega
def NumR (typ text : ByteArray) (v : Value) (w : World) (e : Ending) (w' : World) : Prop := ∃ b, e = .returned (.tuple #[ptr b, .nilIface]) ∧ w.heap.size ≤ b ∧ Blk w' b 244 [.string typ, v, .string text] ∧ Below w.heap.size w w'
def decimalS : ByteArray := ⟨#[100, 101, 99, 105, 109, 97, 108]⟩
set_option maxRecDepth 100000 in
set_option maxHeartbeats 2000000 in
theorem toNumber_pos (t : ByteArray) (ht : IntT t) (w0 : World) : Calls Tryz.prog 143 #[.string t] w0 (NumR decimalS t (.iface 211 (.int .u64 (valD t.data.toList : Nat))) w0) := by
  have hsz := dgsB_size ht.1
  have hd := Digs.of_dgs ht.1
  have hl : t.data.toList.length = t.size := by simp
  have hne : t.data.toList ≠ [] := fun e => by rw [e] at hl; simp at hl; omega
  have hc0 : t.data.toList.count 46 = 0 := List.count_eq_zero.2 (fun hm => hd.ne (x := 46) (by decide) 46 hm rfl)
  have h0 : Lib.hasPrefix t.data.toList (⟨#[48]⟩ : ByteArray).data.toList = true → t.size = 1 := fun h => by
    by_cases h1 : 1 < t.size
    · exact absurd rfl (ht.2 h1 48 (by
        unfold Lib.hasPrefix at h
        cases hx : t.data.toList with
        | nil => exact absurd hx hne
        | cons c r => rw [hx] at h; simp [List.isPrefixOf] at h; simp [h]))
    · omega
  have hpu := parseUint_val hd hne (by omega)
  have HF := Lib.hid (And.intro hd (And.intro hc0 (And.intro h0 hpu)))
  clear hd hl hne hc0 h0 hpu ht
  have hs1 : 0 < t.size := by omega
  go_enter Tryz.func143, Tryz.ntmps143
  go_wp2_with fail
  (refine (hp_any _ _ false _ (np (x := 95) (by decide) (HF.out.1.ne (by decide)))).mono ?_; rintro e w1 ⟨rfl, rfl⟩)
  go_wp2_with fail
  refine (count_is t (by omega) 0 (by rw [HF.out.2.1]; rfl) _).mono ?_
  rintro e w1 ⟨rfl, rfl⟩
  go_wp2_with fail
  (refine (hp_any _ _ false _ (np (x := 45) (by decide) (HF.out.1.ne (by decide)))).mono ?_; rintro e w1 ⟨rfl, rfl⟩)
  go_wp2_with fail
  (refine (tp_any _ _ t _ (tp_none (x := 43) (by decide) (HF.out.1.ne (by decide)))).mono ?_; rintro e w1 ⟨rfl, rfl⟩)
  go_wp2_with fail
  (refine (tp_any _ _ t _ (tp_none (x := 45) (by decide) (HF.out.1.ne (by decide)))).mono ?_; rintro e w1 ⟨rfl, rfl⟩)
  go_wp2_with fail
  refine (replace_none t hs1 (by omega) (HF.out.1.ne (by decide)) _).mono ?_
  rintro e w2 ⟨rfl, hb2⟩
  go_wp2_with fail
  (refine (hp_any _ _ false _ (np (x := 120) (by decide) (HF.out.1.ne (by decide)))).mono ?_; rintro e w1 ⟨rfl, rfl⟩)
  go_wp2_with fail
  (refine (hp_any _ _ false _ (np (x := 111) (by decide) (HF.out.1.ne (by decide)))).mono ?_; rintro e w1 ⟨rfl, rfl⟩)
  go_wp2_with fail
  (refine (hp_any _ _ false _ (np (x := 98) (by decide) (HF.out.1.ne (by decide)))).mono ?_; rintro e w1 ⟨rfl, rfl⟩)
  go_wp2_with fail
  cases hb : Lib.hasPrefix t.data.toList (⟨#[48]⟩ : ByteArray).data.toList
  case' true => have hs2 : t.size = 1 := HF.out.2.2.1 hb
  all_goals
    refine (hp_any _ _ _ _ hb).mono ?_
    rintro e w1 ⟨rfl, rfl⟩
    clear hb
    go_wp2_with fail
    refine (Tryz.strconv_ParseUint_10_at64_ok t (by omega) _ HF.out.2.2.2 _).mono ?_
    rintro e w3 ⟨rfl, hw⟩
    have hb3 : Below w2.heap.size w2 w3 := by
      rcases hw with rfl | rfl
      · exact Below.refl _ _
      · exact Lib.bytesWorld_below _ _ _
    have hst := ((St.nil w0.heap.size ⟨[], []⟩ w0 (Nat.le_refl _)).below hb2).below hb3
    clear hw hb2 hb3
    go_wp2_with ((first | ((with_reducible refine at_load ?_); first | refine X1 hst ?_ | refine XW hst ?_) | ((with_reducible refine at_store ?_); (first | refine Y1 hst ?_ | refine YW hst ?_); clear hst; intro w hst) | ((first | ((with_reducible refine at_alloc ?_); refine ZP hst ?_) | ((with_reducible refine at_box ?_); refine ZP hst ?_) | ((with_reducible refine at_bslice ?_); refine ZS hst ?_)); clear hst; (first | ((fail_if_success have := b0); intro b0 w hb0 hst) | ((fail_if_success have := b1); intro b1 w hb1 hst) | ((fail_if_success have := b2); intro b2 w hb2 hst) | ((fail_if_success have := b3); intro b3 w hb3 hst) | (intro b4 w hb4 hst)))))
    refine ret_tmp2 rfl rfl rfl rfl ?_
    exact ⟨b0, rfl, hb0, hst.blk (by (repeat' (first | exact List.Mem.head _ | apply List.Mem.tail)); done), hst.kp.below⟩
set_option maxRecDepth 100000 in
set_option maxHeartbeats 2000000 in
theorem toNumber_neg (t : ByteArray) (ht : IntT t) (w0 : World) : Calls Tryz.prog 143 #[.string (minus t)] w0 (NumR decimalS (minus t) (.iface 2 (.int .i64 (-((valD t.data.toList : Nat) : Int)))) w0) := by
  have hsz := dgsB_size ht.1
  have hd := Digs.of_dgs ht.1
  have hl : t.data.toList.length = t.size := by simp
  have hms := minus_size t
  have hne : t.data.toList ≠ [] := fun e => by rw [e] at hl; simp at hl; omega
  have hm : ∀ {x : UInt8}, x ≠ 45 → (x.toNat < 48 ∨ 57 < x.toNat) → ∀ c ∈ (minus t).data.toList, c ≠ x := fun {x} h1 h2 c hc => by
    rw [minus_list] at hc
    rcases List.mem_cons.1 hc with rfl | hc
    · exact fun e => h1 e.symm
    · exact hd.ne h2 c hc
  have hc0 : (minus t).data.toList.count 46 = 0 := List.count_eq_zero.2 (fun h => hm (x := 46) (by decide) (by decide) 46 h rfl)
  have h0 : Lib.hasPrefix t.data.toList (⟨#[48]⟩ : ByteArray).data.toList = true → t.size = 1 := fun h => by
    by_cases h1 : 1 < t.size
    · exact absurd rfl (ht.2 h1 48 (by
        unfold Lib.hasPrefix at h
        cases hx : t.data.toList with
        | nil => exact absurd hx hne
        | cons c r => rw [hx] at h; simp [List.isPrefixOf] at h; simp [h]))
    · omega
  have hpi := parseInt_neg hd hne (by omega)
  rw [← minus_list] at hpi
  have hp45 : Lib.hasPrefix (minus t).data.toList (⟨#[45]⟩ : ByteArray).data.toList = true := by rw [minus_list]; simp [Lib.hasPrefix, List.isPrefixOf]
  have ht45 : Lib.trimPrefix (minus t).data.toList (⟨#[45]⟩ : ByteArray).data.toList = t.data.toList := by
    unfold Lib.trimPrefix
    rw [hp45, minus_list]
    rfl
  have HF := Lib.hid (And.intro hd (And.intro hc0 (And.intro h0 (And.intro hpi (And.intro hp45 (And.intro ht45 (And.intro (hm (x := 95) (by decide) (by decide)) (hm (x := 43) (by decide) (by decide)))))))))
  clear hd hl hne hc0 h0 hpi ht hm hp45 ht45
  have hs1 : 0 < t.size := by omega
  have hadd := minus_eq t
  go_enter Tryz.func143, Tryz.ntmps143
  go_wp2_with fail
  (refine (hp_any _ _ false _ (np (x := 95) (by decide) HF.out.2.2.2.2.2.2.1)).mono ?_; rintro e w1 ⟨rfl, rfl⟩)
  go_wp2_with fail
  refine (count_is (minus t) (by omega) 0 (by rw [HF.out.2.1]; rfl) _).mono ?_
  rintro e w1 ⟨rfl, rfl⟩
  go_wp2_with fail
  (refine (hp_any _ _ true _ HF.out.2.2.2.2.1).mono ?_; rintro e w1 ⟨rfl, rfl⟩)
  go_wp2_with fail
  (refine (tp_any _ _ (minus t) _ (tp_none (x := 43) (by decide) HF.out.2.2.2.2.2.2.2)).mono ?_; rintro e w1 ⟨rfl, rfl⟩)
  go_wp2_with fail
  (refine (tp_any _ _ t _ HF.out.2.2.2.2.2.1).mono ?_; rintro e w1 ⟨rfl, rfl⟩)
  go_wp2_with fail
  refine (replace_none t hs1 (by omega) (HF.out.1.ne (by decide)) _).mono ?_
  rintro e w2 ⟨rfl, hb2⟩
  go_wp2_with fail
  (refine (hp_any _ _ false _ (np (x := 120) (by decide) (HF.out.1.ne (by decide)))).mono ?_; rintro e w1 ⟨rfl, rfl⟩)
  go_wp2_with fail
  (refine (hp_any _ _ false _ (np (x := 111) (by decide) (HF.out.1.ne (by decide)))).mono ?_; rintro e w1 ⟨rfl, rfl⟩)
  go_wp2_with fail
  (refine (hp_any _ _ false _ (np (x := 98) (by decide) (HF.out.1.ne (by decide)))).mono ?_; rintro e w1 ⟨rfl, rfl⟩)
  go_wp2_with fail
  cases hb : Lib.hasPrefix t.data.toList (⟨#[48]⟩ : ByteArray).data.toList
  case' true => have hs2 : t.size = 1 := HF.out.2.2.1 hb
  all_goals
    refine (hp_any _ _ _ _ hb).mono ?_
    rintro e w1 ⟨rfl, rfl⟩
    clear hb
    go_wp2_with fail
    refine (Tryz.strconv_ParseInt_10_at64_ok (minus t) (by omega) _ HF.out.2.2.2.1 _).mono ?_
    rintro e w3 ⟨rfl, hw⟩
    have hb3 : Below w2.heap.size w2 w3 := by
      rcases hw with rfl | ⟨t5, rfl⟩
      · exact Below.refl _ _
      · exact Lib.bytesWorld_below _ _ _
    have hst := ((St.nil w0.heap.size ⟨[], []⟩ w0 (Nat.le_refl _)).below hb2).below hb3
    clear hw hb2 hb3
    go_wp2_with ((first | ((with_reducible refine at_load ?_); first | refine X1 hst ?_ | refine XW hst ?_) | ((with_reducible refine at_store ?_); (first | refine Y1 hst ?_ | refine YW hst ?_); clear hst; intro w hst) | ((first | ((with_reducible refine at_alloc ?_); refine ZP hst ?_) | ((with_reducible refine at_box ?_); refine ZP hst ?_) | ((with_reducible refine at_bslice ?_); refine ZS hst ?_)); clear hst; (first | ((fail_if_success have := b0); intro b0 w hb0 hst) | ((fail_if_success have := b1); intro b1 w hb1 hst) | ((fail_if_success have := b2); intro b2 w hb2 hst) | ((fail_if_success have := b3); intro b3 w hb3 hst) | (intro b4 w hb4 hst)))))
    refine ret_tmp2 rfl rfl rfl rfl ?_
    exact ⟨b0, rfl, hb0, hst.blk (by (repeat' (first | exact List.Mem.head _ | apply List.Mem.tail)); done), hst.kp.below⟩
def PFR (w : World) (e : Ending) (w' : World) : Prop := ∃ (f : Nat) (err : Value), e = .returned (.tuple #[.float .f64 f, err]) ∧ (err = .nilIface ∨ ∃ t x, err = .iface t x) ∧ Below w.heap.size w w'
def PFC (s : ByteArray) : Prop := ∀ w : World, Tabs w → Calls Tryz.prog 27 #[.string s, .int .i64 64] w (PFR w)
def floatS : ByteArray := ⟨#[102, 108, 111, 97, 116]⟩
def NumF (text : ByteArray) (w : World) (e : Ending) (w' : World) : Prop := (∃ f : Nat, NumR floatS text (.iface 73 (.float .f64 f)) w e w') ∨ (∃ t x, e = .returned (.tuple #[.pointer none, .iface t x]) ∧ Below w.heap.size w w')
def FloatL (l : List UInt8) : Prop := ∃ a b : List UInt8, l = a ++ 46 :: b ∧ Digs a ∧ Digs b ∧ 1 ≤ a.length ∧ a.length ≤ 18 ∧ 1 ≤ b.length ∧ b.length ≤ 6
theorem FloatT.list {t : ByteArray} (h : FloatT t) : FloatL t.data.toList := by
  obtain ⟨a, b, e, ha, hb⟩ := h
  have h1 := dgsB_size ha.1
  have h2 := dgsB_size hb
  have h3 : a.data.toList.length = a.size := by simp
  have h4 : b.data.toList.length = b.size := by simp
  exact ⟨_, _, e, Digs.of_dgs ha.1, Digs.of_dgs hb, by omega, by omega, by omega, by omega⟩
theorem FloatL.mem {l : List UInt8} (h : FloatL l) {x : UInt8} (hx : x ≠ 46) (h2 : x.toNat < 48 ∨ 57 < x.toNat) : ∀ c ∈ l, c ≠ x := by
  obtain ⟨a, b, rfl, ha, hb, -⟩ := h
  intro c hc
  rcases List.mem_append.1 hc with hc | hc
  · exact ha.ne h2 c hc
  · rcases List.mem_cons.1 hc with rfl | hc
    · exact fun e => hx e.symm
    · exact hb.ne h2 c hc
theorem FloatL.count {l : List UInt8} (h : FloatL l) : l.count 46 = 1 := by
  obtain ⟨a, b, rfl, ha, hb, -⟩ := h
  have h1 : a.count 46 = 0 := List.count_eq_zero.2 (fun hm => ha.ne (x := 46) (by decide) 46 hm rfl)
  have h2 : b.count 46 = 0 := List.count_eq_zero.2 (fun hm => hb.ne (x := 46) (by decide) 46 hm rfl)
  rw [List.count_append, List.count_cons, h1, h2]
  rfl
theorem FloatL.len {l : List UInt8} (h : FloatL l) : 3 ≤ l.length ∧ l.length ≤ 25 := by
  obtain ⟨a, b, rfl, ha, hb, h1, h2, h3, h4⟩ := h
  simp only [List.length_append, List.length_cons]
  omega
set_option maxRecDepth 100000 in
set_option maxHeartbeats 4000000 in
theorem toNumber_fpos (t : ByteArray) (ht : FloatL t.data.toList) (w0 : World) (hT : Tabs w0) (hPF : PFC t) : Calls Tryz.prog 143 #[.string t] w0 (NumF t w0) := by
  have hl : t.data.toList.length = t.size := by simp
  have hsz := ht.len
  rw [hl] at hsz
  have HF := Lib.hid ht
  clear hl ht
  have hs1 : 0 < t.size := by omega
  go_enter Tryz.func143, Tryz.ntmps143
  go_wp2_with fail
  (refine (hp_any _ _ false _ (np (x := 95) (by decide) (HF.out.mem (by decide) (by decide)))).mono ?_; rintro e w1 ⟨rfl, rfl⟩)
  go_wp2_with fail
  refine (count_is t (by omega) 1 (by rw [HF.out.count]; rfl) _).mono ?_
  rintro e w1 ⟨rfl, rfl⟩
  go_wp2_with fail
  (refine (hp_any _ _ false _ (np (x := 45) (by decide) (HF.out.mem (by decide) (by decide)))).mono ?_; rintro e w1 ⟨rfl, rfl⟩)
  go_wp2_with fail
  (refine (tp_any _ _ t _ (tp_none (x := 43) (by decide) (HF.out.mem (by decide) (by decide)))).mono ?_; rintro e w1 ⟨rfl, rfl⟩)
  go_wp2_with fail
  (refine (tp_any _ _ t _ (tp_none (x := 45) (by decide) (HF.out.mem (by decide) (by decide)))).mono ?_; rintro e w1 ⟨rfl, rfl⟩)
  go_wp2_with fail
  refine (replace_none t hs1 (by omega) (HF.out.mem (by decide) (by decide)) _).mono ?_
  rintro e w2 ⟨rfl, hb2⟩
  go_wp2_with fail
  (refine (hp_any _ _ false _ (np (x := 120) (by decide) (HF.out.mem (by decide) (by decide)))).mono ?_; rintro e w1 ⟨rfl, rfl⟩)
  go_wp2_with fail
  (refine (hp_any _ _ false _ (np (x := 111) (by decide) (HF.out.mem (by decide) (by decide)))).mono ?_; rintro e w1 ⟨rfl, rfl⟩)
  go_wp2_with fail
  (refine (hp_any _ _ false _ (np (x := 98) (by decide) (HF.out.mem (by decide) (by decide)))).mono ?_; rintro e w1 ⟨rfl, rfl⟩)
  go_wp2_with fail
  cases hb : Lib.hasPrefix t.data.toList (⟨#[48]⟩ : ByteArray).data.toList
  (all_goals (refine (hp_any _ _ _ _ hb).mono ?_; rintro e w1 ⟨rfl, rfl⟩; clear hb; go_wp2_with fail; refine (hPF w2 (hT.below hb2)).mono ?_; rintro e w3 ⟨f, err, rfl, herr, hb3⟩; have hst := ((St.nil w0.heap.size ⟨[], []⟩ w0 (Nat.le_refl _)).below hb2).below hb3; clear hb2 hb3; rcases herr with rfl | ⟨te, xe, rfl⟩; (focus (go_wp2_with ((first | ((with_reducible refine at_load ?_); first | refine X1 hst ?_ | refine XW hst ?_) | ((with_reducible refine at_store ?_); (first | refine Y1 hst ?_ | refine YW hst ?_); clear hst; intro w hst) | ((first | ((with_reducible refine at_alloc ?_); refine ZP hst ?_) | ((with_reducible refine at_box ?_); refine ZP hst ?_) | ((with_reducible refine at_bslice ?_); refine ZS hst ?_)); clear hst; (first | ((fail_if_success have := b0); intro b0 w hb0 hst) | ((fail_if_success have := b1); intro b1 w hb1 hst) | ((fail_if_success have := b2); intro b2 w hb2 hst) | ((fail_if_success have := b3); intro b3 w hb3 hst) | (intro b4 w hb4 hst))))); refine ret_tmp2 rfl rfl rfl rfl ?_; exact .inl ⟨f, b0, rfl, hb0, hst.blk (by (repeat' (first | exact List.Mem.head _ | apply List.Mem.tail)); done), hst.kp.below⟩)); (go_wp2_with fail; refine ret_tmp2 rfl rfl rfl rfl ?_; exact .inr ⟨te, xe, rfl, hst.kp.below⟩)))
set_option maxRecDepth 100000 in
set_option maxHeartbeats 4000000 in
theorem toNumber_fneg (t : ByteArray) (ht : FloatL t.data.toList) (w0 : World) (hT : Tabs w0) (hPF : PFC (minus t)) : Calls Tryz.prog 143 #[.string (minus t)] w0 (NumF (minus t) w0) := by
  have hl : t.data.toList.length = t.size := by simp
  have hsz := ht.len
  rw [hl] at hsz
  have hms := minus_size t
  have hm : ∀ {x : UInt8}, x ≠ 45 → x ≠ 46 → (x.toNat < 48 ∨ 57 < x.toNat) → ∀ c ∈ (minus t).data.toList, c ≠ x := fun {x} h1 h0 h2 c hc => by
    rw [minus_list] at hc
    rcases List.mem_cons.1 hc with rfl | hc
    · exact fun e => h1 e.symm
    · exact ht.mem h0 h2 c hc
  have hc1 : (minus t).data.toList.count 46 = 1 := by
    rw [minus_list, List.count_cons, ht.count]
    rfl
  have hp45 : Lib.hasPrefix (minus t).data.toList (⟨#[45]⟩ : ByteArray).data.toList = true := by rw [minus_list]; simp [Lib.hasPrefix, List.isPrefixOf]
  have ht45 : Lib.trimPrefix (minus t).data.toList (⟨#[45]⟩ : ByteArray).data.toList = t.data.toList := by
    unfold Lib.trimPrefix
    rw [hp45, minus_list]
    rfl
  have HF := Lib.hid (And.intro ht (And.intro hc1 (And.intro hp45 (And.intro ht45 (And.intro (hm (x := 95) (by decide) (by decide) (by decide)) (hm (x := 43) (by decide) (by decide) (by decide)))))))
  clear hl ht hm hc1 hp45 ht45
  have hs1 : 0 < t.size := by omega
  have hadd := minus_eq t
  go_enter Tryz.func143, Tryz.ntmps143
  go_wp2_with fail
  (refine (hp_any _ _ false _ (np (x := 95) (by decide) HF.out.2.2.2.2.1)).mono ?_; rintro e w1 ⟨rfl, rfl⟩)
  go_wp2_with fail
  refine (count_is (minus t) (by omega) 1 (by rw [HF.out.2.1]; rfl) _).mono ?_
  rintro e w1 ⟨rfl, rfl⟩
  go_wp2_with fail
  (refine (hp_any _ _ true _ HF.out.2.2.1).mono ?_; rintro e w1 ⟨rfl, rfl⟩)
  go_wp2_with fail
  (refine (tp_any _ _ (minus t) _ (tp_none (x := 43) (by decide) HF.out.2.2.2.2.2)).mono ?_; rintro e w1 ⟨rfl, rfl⟩)
  go_wp2_with fail
  (refine (tp_any _ _ t _ HF.out.2.2.2.1).mono ?_; rintro e w1 ⟨rfl, rfl⟩)
  go_wp2_with fail
  refine (replace_none t hs1 (by omega) (HF.out.1.mem (by decide) (by decide)) _).mono ?_
  rintro e w2 ⟨rfl, hb2⟩
  go_wp2_with fail
  (refine (hp_any _ _ false _ (np (x := 120) (by decide) (HF.out.1.mem (by decide) (by decide)))).mono ?_; rintro e w1 ⟨rfl, rfl⟩)
  go_wp2_with fail
  (refine (hp_any _ _ false _ (np (x := 111) (by decide) (HF.out.1.mem (by decide) (by decide)))).mono ?_; rintro e w1 ⟨rfl, rfl⟩)
  go_wp2_with fail
  (refine (hp_any _ _ false _ (np (x := 98) (by decide) (HF.out.1.mem (by decide) (by decide)))).mono ?_; rintro e w1 ⟨rfl, rfl⟩)
  go_wp2_with fail
  cases hb : Lib.hasPrefix t.data.toList (⟨#[48]⟩ : ByteArray).data.toList
  (all_goals (refine (hp_any _ _ _ _ hb).mono ?_; rintro e w1 ⟨rfl, rfl⟩; clear hb; go_wp2_with fail; refine (hPF w2 (hT.below hb2)).mono ?_; rintro e w3 ⟨f, err, rfl, herr, hb3⟩; have hst := ((St.nil w0.heap.size ⟨[], []⟩ w0 (Nat.le_refl _)).below hb2).below hb3; clear hb2 hb3; rcases herr with rfl | ⟨te, xe, rfl⟩; (focus (go_wp2_with ((first | ((with_reducible refine at_load ?_); first | refine X1 hst ?_ | refine XW hst ?_) | ((with_reducible refine at_store ?_); (first | refine Y1 hst ?_ | refine YW hst ?_); clear hst; intro w hst) | ((first | ((with_reducible refine at_alloc ?_); refine ZP hst ?_) | ((with_reducible refine at_box ?_); refine ZP hst ?_) | ((with_reducible refine at_bslice ?_); refine ZS hst ?_)); clear hst; (first | ((fail_if_success have := b0); intro b0 w hb0 hst) | ((fail_if_success have := b1); intro b1 w hb1 hst) | ((fail_if_success have := b2); intro b2 w hb2 hst) | ((fail_if_success have := b3); intro b3 w hb3 hst) | (intro b4 w hb4 hst))))); refine ret_tmp2 rfl rfl rfl rfl ?_; exact .inl ⟨f, b0, rfl, hb0, hst.blk (by (repeat' (first | exact List.Mem.head _ | apply List.Mem.tail)); done), hst.kp.below⟩)); (go_wp2_with fail; refine ret_tmp2 rfl rfl rfl rfl ?_; exact .inr ⟨te, xe, rfl, hst.kp.below⟩)))
end Go.Proofs.YtpajcfkldnbpfaaGreatDoor
namespace Go.Proofs.YtpajcfkldnbpfaaGreatDoor
open Go.RowKit
theorem run_assert73 (f : Nat) (xT : TypeId) (w : World) : (Instr.typeAssert (.iface 73 (.float .f64 f)) xT 73 true).run Tryz.prog w = .ok (.tuple #[.float .f64 f, .bool true]) w := by
  simp [Instr.typeAssert, run_underlying Tryz.underlying73]
def IntNum (text : ByteArray) (v : Value) (w : World) (e : Ending) (w' : World) : Prop := ∃ b, e = .returned (ptr b) ∧ w.heap.size ≤ b ∧ Blk w' b 244 [.string decimalS, v, .string text] ∧ Below w.heap.size w w'
set_option maxRecDepth 100000 in
set_option maxHeartbeats 1000000 in
theorem toNum_int (text value : ByteArray) (hn : IntN text value) (w0 : World) : Calls Tryz.prog 102 #[.string text] w0 (fun e w' => ∃ v, DigV v value ∧ IntNum text v w0 e w') := by
  obtain ⟨t, ht, hc⟩ := hn
  have hsz := dgsB_size ht.1
  have hd := Digs.of_dgs ht.1
  have hl : t.data.toList.length = t.size := by simp
  have hne : t.data.toList ≠ [] := fun e => by rw [e] at hl; simp at hl; omega
  have hlt := valD_lt hd
  have h18 : 10 ^ t.data.toList.length ≤ 10 ^ 18 := Nat.pow_le_pow_right (by decide) (by omega)
  have hdec : Lib.decDigits (valD t.data.toList) = t.data.toList := decDigits_val hd hne (fun h e => ht.2 (by omega) 48 (by rw [e]; rfl) rfl)
  rcases hc with ⟨h1, h2⟩ | ⟨h1, hv⟩
  · replace h1 := h1.symm
    replace h2 := h2.symm
    subst h1
    subst h2
    have HV : DigV (.iface 211 (.int .u64 (valD t.data.toList : Nat))) t := ⟨_, .inr ⟨rfl, by omega, by omega⟩, by rw [Lib.itoa_nonneg, hdec]⟩
    have HN := Lib.hid (toNumber_pos t ht)
    clear ht hd hl hne hlt h18 hdec
    go_enter Tryz.func102, Tryz.ntmps102
    go_wp2_with fail
    refine (HN.out _).mono ?_
    rintro e w1 ⟨b, rfl, h1, h2, h3⟩
    go_wp2_with fail
    refine ret_tmp rfl rfl rfl ⟨_, HV, b, rfl, h1, h2, h3⟩
  · replace h1 := h1.symm
    subst h1
    have HV : DigV (.iface 2 (.int .i64 (-((valD t.data.toList : Nat) : Int)))) value := by
      refine ⟨_, .inl ⟨rfl, by omega, by omega⟩, ?_⟩
      rcases hv with ⟨h0, h2⟩ | ⟨h0, h2⟩
      · rw [h2, show valD t.data.toList = 0 by rw [h0]; rfl, h0, show (-((0 : Nat) : Int)) = ((0 : Nat) : Int) from rfl, Lib.itoa_nonneg, Lib.decDigits_one (by decide)]
        rfl
      · have hp : 1 ≤ valD t.data.toList := by
          by_cases h48 : t.data.toList.head? = some 48
          · have h1 : ¬ 1 < t.size := fun h => ht.2 h 48 (by rw [h48]; rfl) rfl
            exfalso
            cases hx : t.data.toList with
            | nil => exact hne hx
            | cons c r =>
              rw [hx] at hl h48 h0
              have : r = [] := List.eq_nil_of_length_eq_zero (by simp at hl; omega)
              subst this
              simp at h48
              exact h0 (by rw [h48])
          · exact valD_pos hd hne h48
        rw [h2, Lib.itoa_neg _ hp, hdec, minus_list]
    have HN := Lib.hid (toNumber_neg t ht)
    clear ht hd hl hne hlt h18 hdec hv
    go_enter Tryz.func102, Tryz.ntmps102
    go_wp2_with fail
    refine (HN.out _).mono ?_
    rintro e w1 ⟨b, rfl, h1, h2, h3⟩
    go_wp2_with fail
    refine ret_tmp rfl rfl rfl ⟨_, HV, b, rfl, h1, h2, h3⟩
def FltNum (text : ByteArray) (w : World) (e : Ending) (w' : World) : Prop := Below w.heap.size w w' ∧ ((∃ b f, e = .returned (ptr b) ∧ w.heap.size ≤ b ∧ Blk w' b 244 [.string floatS, .iface 73 (.float .f64 f), .string text]) ∨ e = .returned (.pointer none))
set_option maxHeartbeats 1000000 in
theorem toNum_float (text : ByteArray) (hn : FloatN text) (w0 : World) (hT : Tabs w0) (hPF : PFC text) : Calls Tryz.prog 102 #[.string text] w0 (FltNum text w0) := by
  have HN : ∀ w, Tabs w → Calls Tryz.prog 143 #[.string text] w (NumF text w) := fun w hw => by
    obtain ⟨t, ht, rfl | rfl⟩ := hn
    · exact toNumber_fpos _ ht.list w hw hPF
    · exact toNumber_fneg _ ht.list w hw hPF
  clear hn hPF
  go_enter Tryz.func102, Tryz.ntmps102
  go_wp2_with fail
  refine (HN _ hT).mono ?_
  rintro e w1 (⟨f, b, rfl, h1, h2, h3⟩ | ⟨te, xe, rfl, h3⟩)
  · go_wp2_with fail
    refine ret_tmp rfl rfl rfl ⟨h3, .inl ⟨b, f, rfl, h1, h2⟩⟩
  · go_wp2_with fail
    refine ret_tmp rfl rfl rfl ⟨h3, .inr rfl⟩
set_option maxRecDepth 100000 in
set_option maxHeartbeats 1000000 in
theorem integer_any (tk pb : Nat) (h : NH) (w0 : World) (hn : IntN h.text h.value) (ht : Blk w0 tk 92 [.int .i64 h.typ, .int .i64 0, .int .i64 0, .string h.text, .string h.text, .string ByteArray.empty, ptr pb, .pointer none, .pointer none]) : Calls Tryz.prog 61 #[ptr tk] w0 (fun e w' => ∃ v, DigV v h.value ∧ NewB2 115 (fun ba => [ptr ba, ptr tk, v]) w0 e w') := by
  have c3 := ht.cell (off := 3) rfl
  have hN := toNum_int h.text h.value hn
  have HN := Lib.hid hN
  clear hN hn
  go_enter Tryz.func61, Tryz.ntmps61
  go_wp2_with fail
  refine (HN.out _).mono ?_
  rintro e w1 ⟨v, hv, b, rfl, hlb, hblk, hb⟩
  have c1 := hblk.cell (off := 1) rfl
  have hst := (St.nil w0.heap.size ⟨[], []⟩ w0 (Nat.le_refl _)).below hb
  obtain ⟨n, hn | hn, hd⟩ := hv
  all_goals
    obtain ⟨rfl, hn1, hn2⟩ := hn
    go_wp2_with ((first | ((with_reducible refine at_load ?_); first | refine X1 hst ?_ | refine XW hst ?_) | ((with_reducible refine at_store ?_); (first | refine Y1 hst ?_ | refine YW hst ?_); clear hst; intro w hst) | ((first | ((with_reducible refine at_alloc ?_); refine ZP hst ?_) | ((with_reducible refine at_box ?_); refine ZP hst ?_) | ((with_reducible refine at_bslice ?_); refine ZS hst ?_)); clear hst; (first | ((fail_if_success have := b0); intro b0 w hb0 hst) | ((fail_if_success have := b1); intro b1 w hb1 hst) | (intro b2 w hb2 hst)))))
    refine ret_tmp rfl rfl rfl ?_
  · exact ⟨_, ⟨n, .inl ⟨rfl, hn1, hn2⟩, hd⟩, b1, b0, rfl, hb1, hb0, hst.blk (by (repeat' (first | exact List.Mem.head _ | apply List.Mem.tail)); done), hst.blk (by (repeat' (first | exact List.Mem.head _ | apply List.Mem.tail)); done), hst.kp.below⟩
  · exact ⟨_, ⟨n, .inr ⟨rfl, hn1, hn2⟩, hd⟩, b1, b0, rfl, hb1, hb0, hst.blk (by (repeat' (first | exact List.Mem.head _ | apply List.Mem.tail)); done), hst.blk (by (repeat' (first | exact List.Mem.head _ | apply List.Mem.tail)); done), hst.kp.below⟩
set_option maxRecDepth 100000 in
set_option maxHeartbeats 1000000 in
theorem float_any (tk pb : Nat) (h : NH) (w0 : World) (hn : FloatN h.text) (hT : Tabs w0) (hPF : PFC h.text) (ht : Blk w0 tk 92 [.int .i64 h.typ, .int .i64 0, .int .i64 0, .string h.text, .string h.text, .string ByteArray.empty, ptr pb, .pointer none, .pointer none]) : Calls Tryz.prog 62 #[ptr tk] w0 (fun e w' => ∃ f, NewB2 119 (fun ba => [ptr ba, ptr tk, .int .i64 0, .float .f64 f]) w0 e w') := by
  have c3 := ht.cell (off := 3) rfl
  have HN := Lib.hid (toNum_float h.text hn w0 hT hPF)
  clear hn hPF hT
  go_enter Tryz.func62, Tryz.ntmps62
  go_wp2_with fail
  refine HN.out.mono ?_
  rintro e w1 ⟨hb, ⟨b, f, rfl, hlb, hblk⟩ | rfl⟩
  · have c0 := hblk.cell (off := 0) rfl
    have c1 := hblk.cell (off := 1) rfl
    have ha := fun xT w => run_assert73 f xT w
    have hst := (St.nil w0.heap.size ⟨[], []⟩ w0 (Nat.le_refl _)).below hb
    unfold floatS at c0
    go_wp2_with ((first | ((with_reducible refine at_load ?_); first | refine X1 hst ?_ | refine XW hst ?_) | ((with_reducible refine at_store ?_); (first | refine Y1 hst ?_ | refine YW hst ?_); clear hst; intro w hst) | ((first | ((with_reducible refine at_alloc ?_); refine ZP hst ?_) | ((with_reducible refine at_box ?_); refine ZP hst ?_) | ((with_reducible refine at_bslice ?_); refine ZS hst ?_)); clear hst; (first | ((fail_if_success have := b0); intro b0 w hb0 hst) | ((fail_if_success have := b1); intro b1 w hb1 hst) | (intro b2 w hb2 hst)))))
    refine ret_tmp rfl rfl rfl ?_
    exact ⟨f, b1, b0, rfl, hb1, hb0, hst.blk (by (repeat' (first | exact List.Mem.head _ | apply List.Mem.tail)); done), hst.blk (by (repeat' (first | exact List.Mem.head _ | apply List.Mem.tail)); done), hst.kp.below⟩
  · have hst := (St.nil w0.heap.size ⟨[], []⟩ w0 (Nat.le_refl _)).below hb
    go_wp2_with ((first | ((with_reducible refine at_load ?_); first | refine X1 hst ?_ | refine XW hst ?_) | ((with_reducible refine at_store ?_); (first | refine Y1 hst ?_ | refine YW hst ?_); clear hst; intro w hst) | ((first | ((with_reducible refine at_alloc ?_); refine ZP hst ?_) | ((with_reducible refine at_box ?_); refine ZP hst ?_) | ((with_reducible refine at_bslice ?_); refine ZS hst ?_)); clear hst; (first | ((fail_if_success have := b0); intro b0 w hb0 hst) | ((fail_if_success have := b1); intro b1 w hb1 hst) | (intro b2 w hb2 hst)))))
    refine ret_tmp rfl rfl rfl ?_
    exact ⟨0, b1, b0, rfl, hb1, hb0, hst.blk (by (repeat' (first | exact List.Mem.head _ | apply List.Mem.tail)); done), hst.blk (by (repeat' (first | exact List.Mem.head _ | apply List.Mem.tail)); done), hst.kp.below⟩
end Go.Proofs.YtpajcfkldnbpfaaGreatDoor
