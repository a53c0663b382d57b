/- impl.Left. -/
import Derived.Test.YtpajcfkldnbpfaaGreatDoorV37
import Derived.Test.YtpajcfkldnbpfaaGreatDoorV39
import Derived.Test.YtpajcfkldnbpfaaGreatDoorS01
set_option linter.unusedSimpArgs false
set_option linter.unusedVariables false
namespace Go.Proofs.YtpajcfkldnbpfaaGreatDoor
open Go.RowKit
def allBool (l : List Value) : Prop := l.length = 128 ∧ ∀ v ∈ l, ∃ b : Bool, v = .bool b
def NameL (name : ByteArray) : Prop := name = ⟨#[70, 110, 86, 105, 115, 105, 116, 115, 84, 114, 101, 101]⟩ ∨ name = ⟨#[70, 110, 83, 104, 105, 102, 116, 84, 114, 101, 101]⟩
def isB (v : Value) : Prop := ∃ b : Bool, v = .bool b
def isI (v : Value) : Prop := ∃ b : Int, v = .int .i64 b
def isU (v : Value) : Prop := ∃ b : UInt8, v = .int .u8 ((b.toNat : Nat) : Int)
theorem St.someBool {B b : Nat} {Ts : Ch} {w0 w : World} (h : St B Ts w0 w [(some b, [.bool false, .bool false, .bool false, .bool false, .bool false, .bool false, .bool false, .bool false, .bool false, .bool false, .bool false, .bool false, .bool false, .bool false, .bool false, .bool false, .bool false, .bool false, .bool false, .bool false, .bool false, .bool false, .bool false, .bool false, .bool false, .bool false, .bool false, .bool false, .bool false, .bool false, .bool false, .bool false, .bool false, .bool false, .bool false, .bool false, .bool false, .bool false, .bool false, .bool false, .bool false, .bool false, .bool false, .bool false, .bool false, .bool false, .bool false, .bool false, .bool false, .bool false, .bool false, .bool false, .bool false, .bool false, .bool false, .bool false, .bool false, .bool false, .bool false, .bool false, .bool false, .bool false, .bool false, .bool false, .bool false, .bool false, .bool false, .bool false, .bool false, .bool false, .bool false, .bool false, .bool false, .bool false, .bool false, .bool false, .bool false, .bool false, .bool false, .bool false, .bool false, .bool false, .bool false, .bool false, .bool false, .bool false, .bool false, .bool false, .bool false, .bool false, .bool false, .bool false, .bool false, .bool false, .bool false, .bool false, .bool false, .bool false, .bool false, .bool false, .bool false, .bool false, .bool false, .bool false, .bool false, .bool false, .bool false, .bool false, .bool false, .bool false, .bool false, .bool false, .bool false, .bool false, .bool false, .bool false, .bool false, .bool false, .bool false, .bool false, .bool false, .bool false, .bool false, .bool false, .bool false, .bool false, .bool false, .bool false], 72)]) : ∃ l, allBool l ∧ St B Ts w0 w [(some b, l, 72)] := ⟨_, ⟨rfl, by intro v hv; simp at hv; exact ⟨_, hv⟩⟩, h⟩
theorem Rep.set {v : Value} : ∀ {l : List Value} {k : Nat}, k < l.length → Rep l k v (l.set k v)
  | [], _, h => absurd h (Nat.not_lt_zero _)
  | _ :: _, 0, _ => .here
  | _ :: l, k + 1, h => .there (Rep.set (l := l) (by simpa using h))
theorem allBool.at {l : List Value} (h : allBool l) {k : Nat} (hk : k < 128) : ∃ b : Bool, l[k]? = some (.bool b) := by
  have hl : k < l.length := by rw [h.1]; exact hk
  obtain ⟨b, hb⟩ := h.2 l[k] (List.getElem_mem hl)
  exact ⟨b, by rw [List.getElem?_eq_getElem hl, hb]⟩
theorem allBool.set {l : List Value} (h : allBool l) (k : Nat) (b : Bool) : allBool (l.set k (.bool b)) := ⟨by rw [List.length_set]; exact h.1, fun v hv => by
  rcases List.mem_or_eq_of_mem_set hv with hv | rfl
  · exact h.2 v hv
  · exact ⟨b, rfl⟩⟩
theorem and127 (c : UInt8) : ∃ k : Nat, k < 128 ∧ bits BinOp.and IntKind.u8 ((c.toNat : Nat) : Int) 127 = (k : Int) := by
  have h : ((List.range 256).all fun n => decide (bits BinOp.and IntKind.u8 ((n : Nat) : Int) 127 = ((n &&& 127 : Nat) : Int))) = true := by decide +kernel
  refine ⟨c.toNat &&& 127, by have := @Nat.and_le_right c.toNat 127; omega, ?_⟩
  exact of_decide_eq_true (List.all_eq_true.1 h c.toNat (List.mem_range.2 c.toNat_lt))
theorem run_conv_some {P : Program} {t : TypeId} (ht : P.underlying t = some (.int .i64)) {s : TypeId} (hs : P.underlying s = some (.float .f64)) (x : Nat) : ∃ (r : World → Int) (g : World → World), (∀ w : World, Below w.heap.size w (g w) ∧ -9223372036854775808 ≤ r w ∧ r w ≤ 9223372036854775807) ∧ ∀ w : World, (convert s t (.float .f64 x)).run P w = .ok (.int .i64 (r w)) (g w) := by
  have hany : ∀ y : Int, -9223372036854775808 ≤ IntKind.i64.wrap y ∧ IntKind.i64.wrap y ≤ 9223372036854775807 := fun y => by rw [IntKind.wrap_i64]; omega
  cases hf : floatToIntVal .f64 x .i64 with
  | some n =>
    have hw := floatToIntVal_wf hf
    simp only [Lit.wf, Bool.and_eq_true, decide_eq_true_eq] at hw
    exact ⟨fun _ => n, fun w => w, fun w => ⟨Below.refl _ _, hw.1, hw.2⟩, fun w => run_convert_float_int w s t .f64 .i64 x n (by rw [hs]; rfl) ht hf⟩
  | none =>
    refine ⟨fun w => IntKind.i64.wrap ((Question.floatToInt .f64 x .i64).cut (w.tape w.drawn (.floatToInt .f64 x .i64)) : Nat), World.drew, fun w => ⟨(Below.refl _ _).drew, hany _⟩, fun w => ?_⟩
    have hfo : (Question.floatToInt .f64 x .i64).forced = false := rfl
    have hc : Conv.floatToInt .f64 x .i64 = (do pure (.int .i64 (IntKind.i64.wrap (← choose (.floatToInt .f64 x .i64)))) : Sem Value) := by
      unfold floatToIntVal at hf
      unfold Conv.floatToInt
      split at hf
      · rename_i m he
        split at hf
        · cases hf
        · rename_i hb
          simp only [he]
          rw [if_neg hb]
      · rename_i he
        simp only [he]
    have hr : (Conv.floatToInt .f64 x .i64).run P w = .ok (.int .i64 (IntKind.i64.wrap ((Question.floatToInt .f64 x .i64).cut (w.tape w.drawn (.floatToInt .f64 x .i64)) : Nat))) w.drew := by
      rw [hc]
      simp [choose, Sem.run, hfo]
    simp [convert, run_underlying hs, run_underlying ht, hr]
theorem four (c : Int) : c = 124 ∨ (c ≠ 124 ∧ c = 62) ∨ (c ≠ 124 ∧ c ≠ 62 ∧ c = 43) ∨ (c ≠ 124 ∧ c ≠ 62 ∧ c ≠ 43 ∧ c = 45) ∨ (c ≠ 124 ∧ c ≠ 62 ∧ c ≠ 43 ∧ c ≠ 45) := by omega
theorem head_of {s : ByteArray} (h0 : 0 < s.size) : s.data.toList.head? = some (s[0]'h0) := by
  rw [List.head?_eq_getElem?, List.getElem?_eq_getElem (by simpa using h0)]
  simp [ByteArray.getElem_eq_getElem_data]
def plusB (s : ByteArray) : Bool := decide (s.data.toList.head? = some 43)
theorem plusB_false {s : ByteArray} (h : plusB s = false) : s.data.toList.head? ≠ some 43 := of_decide_eq_false h
theorem plusB_at {s : ByteArray} (h0 : 0 < s.size) : plusB s = decide (s[0].toNat = 43) := by
  unfold plusB
  rw [head_of h0]
  by_cases h : s[0] = 43
  · rw [h]; rfl
  · have h2 : s[0].toNat ≠ 43 := fun e => h (UInt8.toNat_inj.1 e)
    simp [h, h2]
theorem ne_empty {s : ByteArray} (h : ¬ s = ByteArray.empty) : ¬ s.toList = [] := by
  intro e
  rw [ByteArray.toList_eq] at e
  refine h (empty_of ?_)
  have : s.data.toList.length = 0 := by rw [e]; rfl
  simpa using this
theorem asked_any {s : ByteArray} (hp : PlainOk s) (ht : s.size ≤ 40) (hh : s.data.toList.head? ≠ some 43) : Asked s := by
  by_cases hE : s = ByteArray.empty
  · exact .inl hE
  · exact asked_plain hp ht hh
set_option maxRecDepth 100000 in
set_option maxHeartbeats 8000000 in
theorem left_any (name text : ByteArray) (w0 : World) (hn : NameL name) (ht : text.size ≤ 40) (hp : PlainOk text) (hT : Tabs w0) : Calls Tryz.prog 15 #[.string name, .string text] w0 (LeftR text w0) := by
  have HP := Lib.hid (And.intro hp hT)
  clear hp hT
  have hst := St.nil w0.heap.size ⟨[], []⟩ w0 (Nat.le_refl _)
  go_enter Tryz.func15, Tryz.ntmps15
  go_wp2_with ((first | ((with_reducible refine at_load ?_); first | refine X1 hst ?_ | refine XW hst ?_) | ((with_reducible refine at_store ?_); (first | refine Y1 hst ?_ | refine YW hst ?_); clear hst; intro w hst) | ((first | ((with_reducible refine at_alloc ?_); refine ZP hst ?_) | ((with_reducible refine at_box ?_); refine ZP hst ?_) | ((with_reducible refine at_bslice ?_); refine ZS hst ?_)); clear hst; (first | ((fail_if_success have := b0); intro b0 w hb0 hst) | (intro b1 w hb1 hst)))))
  replace hst := St.someBool hst
  obtain ⟨l, hl, hst⟩ := hst
  go_loopw [20, 6, 7, 8, 9, 10, 11, 12, 13, 14, 15, 16, 17, 18, 19] (fun i a6 a7 a8 a9 a10 a11 a12 a13 a14 a15 a16 a17 a18 a19 wx => (∃ n : Nat, i = .int .i64 n ∧ n ≤ text.size) ∧ isB a6 ∧ isI a7 ∧ isI a8 ∧ isI a9 ∧ isB a10 ∧ isB a11 ∧ isB a12 ∧ isB a13 ∧ isB a14 ∧ isB a15 ∧ isB a16 ∧ isB a17 ∧ isB a18 ∧ isB a19 ∧ ∃ l, allBool l ∧ St w0.heap.size ⟨[], []⟩ w0 wx [(some b0, l, 72)]) (fun i _ _ _ _ _ _ _ _ _ _ _ _ _ _ _ => text.size - (intOf i).toNat)
  case atStart => exact ⟨⟨0, rfl, Nat.zero_le _⟩, ⟨_, rfl⟩, ⟨_, rfl⟩, ⟨_, rfl⟩, ⟨_, rfl⟩, ⟨_, rfl⟩, ⟨_, rfl⟩, ⟨_, rfl⟩, ⟨_, rfl⟩, ⟨_, rfl⟩, ⟨_, rfl⟩, ⟨_, rfl⟩, ⟨_, rfl⟩, ⟨_, rfl⟩, ⟨_, rfl⟩, l, hl, hst⟩
  case round =>
    clear hst hl l
    obtain ⟨⟨n, rfl, hnt⟩, ⟨a6, rfl⟩, ⟨a7, rfl⟩, ⟨a8, rfl⟩, ⟨a9, rfl⟩, ⟨a10, rfl⟩, ⟨a11, rfl⟩, ⟨a12, rfl⟩, ⟨a13, rfl⟩, ⟨a14, rfl⟩, ⟨a15, rfl⟩, ⟨a16, rfl⟩, ⟨a17, rfl⟩, ⟨a18, rfl⟩, ⟨a19, rfl⟩, l, hl, hst⟩ := hrel
    have HL := Lib.hid hl
    clear hl
    by_cases h1 : (n : Int) < text.size
    · have h2 : n < text.size := by omega
      go_upto_region 8 with fail
      generalize hc : text[n] = c
      obtain ⟨kc, hkc, hbits⟩ : ∃ k : Nat, k < 128 ∧ bits BinOp.and IntKind.u8 ((c.toNat : Nat) : Int) 127 = (k : Int) := and127 c
      obtain ⟨bb, hcell⟩ : ∃ bb : Bool, l[kc]? = some (.bool bb) := HL.out.at hkc
      have hck := hst.cell (b := b0) (off := kc) (by (repeat' (first | exact List.Mem.head _ | apply List.Mem.tail)); done) hcell
      go_cut [21] from 34 to 44 (fun y wx => y = .int .u8 ((c.toNat : Nat) : Int) ∧ ∃ l, Hid (allBool l) ∧ St w0.heap.size ⟨[], []⟩ w0 wx [(some b0, l, 72)])
      case first =>
        as_aux_lemma =>
        have hkl : kc < l.length := by rw [HL.out.1]; exact hkc
        cases bb
        all_goals
          go_wp2_with ((with_reducible refine at_store ?_); refine wl_one hst rfl rfl rfl rfl (UpdOne.head (Rep.set hkl)) (sz1_of (by decide +kernel)) rfl ?_; clear hst; intro w hst)
          go_meet
          case rel => exact ⟨rfl, _, Lib.hid (HL.out.set kc _), hst⟩
      case rest =>
      as_aux_lemma =>
      clear hst HL hck hcell hbits hkc l
      obtain ⟨rfl, l, HL, hst⟩ := hcut
      have hst0 := Lib.hid hst
      clear hst
      rename World => wd
      go_upto_region 9 with fail
      go_cut [6] from 45 to 60 (fun y wx => wd = wx ∧ isB y)
      case first =>
        as_aux_lemma =>
        (cases a6) <;> (by_cases k1 : ((c.toNat : Nat) : Int) = 10) <;> (by_cases k2 : ((c.toNat : Nat) : Int) = 13)
        all_goals (go_wp2_with fail; go_meet; case rel => exact ⟨rfl, _, rfl⟩)
      case rest =>
      as_aux_lemma =>
      obtain ⟨rfl, a6, rfl⟩ := hcut
      go_upto_if 62 with fail
      go_cut [7] from 61 to 64 (fun y wx => wd = wx ∧ isI y)
      case first =>
        as_aux_lemma =>
        (by_cases k0 : ((c.toNat : Nat) : Int) = 42)
        all_goals (go_wp2_with fail; go_meet; case rel => exact ⟨rfl, _, rfl⟩)
      case rest =>
      as_aux_lemma =>
      obtain ⟨rfl, a7, rfl⟩ := hcut
      go_upto_region 12 with fail
      go_cut [74] from 65 to 74 (fun y wx => wd = wx ∧ isB y)
      case first =>
        as_aux_lemma =>
        (by_cases k0 : ((c.toNat : Nat) : Int) = 91) <;> (by_cases k1 : ((c.toNat : Nat) : Int) = 123)
        all_goals (go_wp2_with fail; go_meet; case rel => exact ⟨rfl, _, rfl⟩)
      case rest =>
      as_aux_lemma =>
      obtain ⟨rfl, a74, rfl⟩ := hcut
      go_upto_if 74 with fail
      go_cut [8] from 75 to 76 (fun y wx => wd = wx ∧ isI y)
      case first =>
        as_aux_lemma =>
        (cases a74)
        all_goals (go_wp2_with fail; go_meet; case rel => exact ⟨rfl, _, rfl⟩)
      case rest =>
      as_aux_lemma =>
      obtain ⟨rfl, a8, rfl⟩ := hcut
      go_upto_if 81 with fail
      go_cut [22] from 77 to 85 (fun y wx => wd = wx ∧ isU y)
      case first =>
        as_aux_lemma =>
        (by_cases k0 : (n : Int) + 1 < text.size)
        all_goals (go_wp2_with fail; go_meet; case rel => first | exact ⟨rfl, _, rfl⟩ | exact ⟨rfl, 0, rfl⟩)
      case rest =>
      as_aux_lemma =>
      obtain ⟨rfl, d, rfl⟩ := hcut
      go_upto_region 17 with fail
      go_cut [11] from 86 to 94 (fun y wx => wd = wx ∧ isB y)
      case first =>
        as_aux_lemma =>
        (cases a11) <;> (by_cases k1 : ((c.toNat : Nat) : Int) = 39)
        all_goals (go_wp2_with fail; go_meet; case rel => exact ⟨rfl, _, rfl⟩)
      case rest =>
      as_aux_lemma =>
      obtain ⟨rfl, a11, rfl⟩ := hcut
      go_upto_region 18 with fail
      go_cut [12, 21] (fun y z wx => wd = wx ∧ isB y ∧ z = .int .u8 ((c.toNat : Nat) : Int))
      case first =>
        as_aux_lemma =>
        (cases a12) <;> (by_cases k1 : ((c.toNat : Nat) : Int) = 35) <;> (by_cases k2 : (1 : Int) < n)
        all_goals go_wp2_with fail
        all_goals (go_meet; case rel => first | exact ⟨rfl, ⟨_, rfl⟩, rfl⟩ | exact ⟨rfl, ⟨_, rfl⟩, by rw [k1]⟩)
      case rest =>
      as_aux_lemma =>
      obtain ⟨rfl, ⟨a12, rfl⟩, rfl⟩ := hcut
      go_upto_region 19 with fail
      go_cut [13, 21, 22] (fun y z z2 wx => wd = wx ∧ isB y ∧ z = .int .u8 ((c.toNat : Nat) : Int) ∧ z2 = .int .u8 ((d.toNat : Nat) : Int))
      case first =>
        as_aux_lemma =>
        (cases a13) <;> (by_cases k1 : ((c.toNat : Nat) : Int) = 92) <;> (by_cases k2 : ((d.toNat : Nat) : Int) = 120)
        all_goals go_wp2_with fail
        all_goals (go_meet; case rel => refine ⟨rfl, ⟨_, rfl⟩, ?_, ?_⟩ <;> first | rfl | simp [*])
      case rest =>
      as_aux_lemma =>
      obtain ⟨rfl, ⟨a13, rfl⟩, rfl, rfl⟩ := hcut
      go_upto_region 20 with fail
      go_cut [15] from 132 to 139 (fun y wx => wd = wx ∧ isB y)
      case first =>
        as_aux_lemma =>
        (cases a15) <;> (by_cases k1 : ((c.toNat : Nat) : Int) = 44)
        all_goals go_wp2_with fail
        all_goals (go_meet; case rel => exact ⟨rfl, _, rfl⟩)
      case rest =>
      as_aux_lemma =>
      obtain ⟨rfl, a15, rfl⟩ := hcut
      go_upto_region 21 with fail
      go_cut [16] from 140 to 144 (fun y wx => wd = wx ∧ isB y)
      case first =>
        as_aux_lemma =>
        (cases a16)
        all_goals go_wp2_with fail
        all_goals (go_meet; case rel => exact ⟨rfl, _, rfl⟩)
      case rest =>
      as_aux_lemma =>
      obtain ⟨rfl, a16, rfl⟩ := hcut
      go_upto_region 22 with fail
      go_cut [18, 21, 22] (fun y z z2 wx => wd = wx ∧ isB y ∧ z = .int .u8 ((c.toNat : Nat) : Int) ∧ z2 = .int .u8 ((d.toNat : Nat) : Int))
      case first =>
        as_aux_lemma =>
        (cases a18) <;> (by_cases k1 : ((c.toNat : Nat) : Int) = 38) <;> (by_cases k2 : ((d.toNat : Nat) : Int) < 97)
        all_goals go_wp2_with fail
        all_goals (go_meet; case rel => refine ⟨rfl, ⟨_, rfl⟩, ?_, ?_⟩ <;> first | rfl | simp [*])
      case rest =>
      as_aux_lemma =>
      obtain ⟨rfl, ⟨a18, rfl⟩, rfl, rfl⟩ := hcut
      go_upto_region 23 with fail
      go_cut [19, 21, 22] (fun y z z2 wx => wd = wx ∧ isB y ∧ z = .int .u8 ((c.toNat : Nat) : Int) ∧ z2 = .int .u8 ((d.toNat : Nat) : Int))
      case first =>
        as_aux_lemma =>
        cases a19
        rcases four ((c.toNat : Nat) : Int) with k1 | ⟨k1, k2⟩ | ⟨k1, k2, k3⟩ | ⟨k1, k2, k3, k4⟩ | ⟨k1, k2, k3, k4⟩
        all_goals (try (by_cases k9 : (48 : Int) ≤ ((d.toNat : Nat) : Int)))
        all_goals go_wp2_with fail
        all_goals (go_meet; case rel => refine ⟨rfl, ⟨_, rfl⟩, ?_, ?_⟩ <;> first | rfl | simp [*])
      case rest =>
      as_aux_lemma =>
      obtain ⟨rfl, ⟨a19, rfl⟩, rfl, rfl⟩ := hcut
      go_upto_region 24 with fail
      go_cut [17] from 183 to 187 (fun y wx => wd = wx ∧ isB y)
      case first =>
        as_aux_lemma =>
        (cases a17)
        all_goals go_wp2_with fail
        all_goals (go_meet; case rel => exact ⟨rfl, _, rfl⟩)
      case rest =>
      as_aux_lemma =>
      obtain ⟨rfl, a17, rfl⟩ := hcut
      go_upto_region 26 with fail
      go_cut [195] from 190 to 195 (fun y wx => wd = wx ∧ isB y)
      case first =>
        as_aux_lemma =>
        (by_cases k0 : ((c.toNat : Nat) : Int) = 10)
        all_goals go_wp2_with fail
        all_goals (go_meet; case rel => exact ⟨rfl, _, rfl⟩)
      case rest =>
      as_aux_lemma =>
      obtain ⟨rfl, a195, rfl⟩ := hcut
      go_upto_if 195 with fail
      go_cut [9, 10] from 196 to 201 (fun y z wx => wd = wx ∧ isI y ∧ isB z)
      case first =>
        as_aux_lemma =>
        (cases a195) <;> (by_cases k1 : ((c.toNat : Nat) : Int) = 32)
        all_goals go_wp2_with fail
        all_goals (go_meet; case rel => exact ⟨rfl, ⟨_, rfl⟩, ⟨_, rfl⟩⟩)
      case rest =>
      as_aux_lemma =>
      obtain ⟨rfl, ⟨a9, rfl⟩, ⟨a10, rfl⟩⟩ := hcut
      cases a14
      all_goals
        go_wp2_with fail
        go_round
        case rel => exact ⟨⟨n + 1, by rw [show (n : Int) + 1 = ((n + 1 : Nat) : Int) by omega], h2⟩, ⟨_, rfl⟩, ⟨_, rfl⟩, ⟨_, rfl⟩, ⟨_, rfl⟩, ⟨_, rfl⟩, ⟨_, rfl⟩, ⟨_, rfl⟩, ⟨_, rfl⟩, ⟨_, rfl⟩, ⟨_, rfl⟩, ⟨_, rfl⟩, ⟨_, rfl⟩, ⟨_, rfl⟩, ⟨_, rfl⟩, l, HL.out, hst0.out⟩
        case measure => simp [intOf]; omega
    · have e : n = text.size := by omega
      subst e
      have hst0 := Lib.hid hst
      clear hst HL hnt
      as_aux_lemma =>
      rcases hn with rfl | rfl
      · as_aux_lemma =>
        (go_upto_region 83 with fail; go_cut [454] from 448 to 454 (fun y wx => wr = wx ∧ y = .bool (plusB text)); (case first => (as_aux_lemma => (by_cases hE : text = ByteArray.empty; (focus (subst hE; go_wp2_with fail; go_meet; case rel => exact ⟨rfl, rfl⟩)); (have h0 : 0 < text.size := Nat.pos_of_ne_zero (fun h => hE (empty_of h)); have hhd := plusB_at h0; have hem := ne_empty hE; by_cases h43 : text[0].toNat = 43; all_goals (go_wp2_with fail; all_goals (first | exact hem | exact hem ‹_› | (go_meet; case rel => exact ⟨rfl, (by rw [hhd]; simp [h43, hem] <;> omega)⟩))))))); (case rest => (as_aux_lemma => (obtain ⟨rfl, rfl⟩ := hcut; cases hpl : plusB text; (focus (as_aux_lemma => (have hh := plusB_false hpl; have hask := asked_any HP.out.1 ht hh; clear hpl; (go_wp2_with fail; refine (parse27 text hask (by omega) wr (HP.out.2.below hst0.out.kp.below)).mono ?_; rintro e w1 ⟨f, err, rfl, herr, hb⟩; have HB := Lib.hid (hst0.out.kp.below.trans (hb.mono hst0.out.kp.below.size)); clear hb; rcases herr with rfl | ⟨te, xe, rfl⟩; (focus (go_wp2_with fail; refine (format28 f w1 (HP.out.2.below HB.out)).mono ?_; rintro e w2 ⟨sf, rfl, -, hb⟩; have HB := Lib.hid (HB.out.trans (hb.mono HB.out.size)); clear hb; (obtain ⟨r, g, hrg, hcv⟩ := run_conv_some (P := Tryz.prog) (t := 2) (s := 73) Tryz.underlying2 Tryz.underlying73 f; have HRG := Lib.hid (hrg w2); clear hrg; go_wp2_with fail; all_goals (first | (exact ret_tmp rfl rfl rfl ⟨_, rfl, fun h => absurd h hh, HB.out⟩) | (refine (formatInt_any (r w2) HRG.out.2.1 HRG.out.2.2 _ (HP.out.2.below (HB.out.trans (HRG.out.1.mono HB.out.size)))).mono ?_; rintro e w3 ⟨rfl, hb⟩; have HB := Lib.hid ((HB.out.trans (HRG.out.1.mono HB.out.size)).trans (hb.mono (HB.out.trans (HRG.out.1.mono HB.out.size)).size)); clear hb; go_wp2_with fail; all_goals (exact ret_tmp rfl rfl rfl ⟨_, rfl, fun h => absurd h hh, HB.out⟩)))))); (go_wp2_with fail; (exact ret_tmp rfl rfl rfl ⟨_, rfl, fun h => absurd h hh, HB.out⟩)))))); (focus (as_aux_lemma => (have HB := Lib.hid hst0.out.kp.below; go_wp2_with fail; exact ret_tmp rfl rfl rfl ⟨_, rfl, fun _ => rfl, HB.out⟩)))))))
      · as_aux_lemma =>
        (go_upto_region 83 with fail; go_cut [454] from 448 to 454 (fun y wx => wr = wx ∧ y = .bool (plusB text)); (case first => (as_aux_lemma => (by_cases hE : text = ByteArray.empty; (focus (subst hE; go_wp2_with fail; go_meet; case rel => exact ⟨rfl, rfl⟩)); (have h0 : 0 < text.size := Nat.pos_of_ne_zero (fun h => hE (empty_of h)); have hhd := plusB_at h0; have hem := ne_empty hE; by_cases h43 : text[0].toNat = 43; all_goals (go_wp2_with fail; all_goals (first | exact hem | exact hem ‹_› | (go_meet; case rel => exact ⟨rfl, (by rw [hhd]; simp [h43, hem] <;> omega)⟩))))))); (case rest => (as_aux_lemma => (obtain ⟨rfl, rfl⟩ := hcut; cases hpl : plusB text; (focus (as_aux_lemma => (have hh := plusB_false hpl; have hask := asked_any HP.out.1 ht hh; clear hpl; (go_wp2_with fail; refine (parse27 text hask (by omega) wr (HP.out.2.below hst0.out.kp.below)).mono ?_; rintro e w1 ⟨f, err, rfl, herr, hb⟩; have HB := Lib.hid (hst0.out.kp.below.trans (hb.mono hst0.out.kp.below.size)); clear hb; rcases herr with rfl | ⟨te, xe, rfl⟩; (focus (go_wp2_with fail; refine (format28 f w1 (HP.out.2.below HB.out)).mono ?_; rintro e w2 ⟨sf, rfl, -, hb⟩; have HB := Lib.hid (HB.out.trans (hb.mono HB.out.size)); clear hb; (obtain ⟨r, g, hrg, hcv⟩ := run_conv_some (P := Tryz.prog) (t := 2) (s := 73) Tryz.underlying2 Tryz.underlying73 f; have HRG := Lib.hid (hrg w2); clear hrg; go_wp2_with fail; all_goals (first | (exact ret_tmp rfl rfl rfl ⟨_, rfl, fun h => absurd h hh, HB.out⟩) | (refine (formatInt_any (r w2) HRG.out.2.1 HRG.out.2.2 _ (HP.out.2.below (HB.out.trans (HRG.out.1.mono HB.out.size)))).mono ?_; rintro e w3 ⟨rfl, hb⟩; have HB := Lib.hid ((HB.out.trans (HRG.out.1.mono HB.out.size)).trans (hb.mono (HB.out.trans (HRG.out.1.mono HB.out.size)).size)); clear hb; go_wp2_with fail; all_goals (exact ret_tmp rfl rfl rfl ⟨_, rfl, fun h => absurd h hh, HB.out⟩)))))); (go_wp2_with fail; (exact ret_tmp rfl rfl rfl ⟨_, rfl, fun h => absurd h hh, HB.out⟩)))))); (focus (as_aux_lemma => (have HB := Lib.hid hst0.out.kp.below; go_wp2_with fail; exact ret_tmp rfl rfl rfl ⟨_, rfl, fun _ => rfl, HB.out⟩)))))))
end Go.Proofs.YtpajcfkldnbpfaaGreatDoor
