/- The functions of package spec that loop over a text. Growing slices at the head of the list of known blocks. Names and tags. -/
import Derived.Test.YtpajcfkldnbpfaaGreatDoorV02
import Derived.Lib.Hide
import Derived.Handy
import Derived.Deep.DeepCutAuto
import Derived.Lib.AtoiErrMem
import Derived.Lib.SlBytesRow
import Derived.Lib.BufferRead
set_option linter.unusedSimpArgs false
set_option linter.unusedVariables false
namespace Go.Proofs.YtpajcfkldnbpfaaGreatDoor
open Go.RowKit
theorem ret_bool {a b : Bool} (h : a = b) : Ending.returned (.bool a) = .returned (.bool b) := by rw [h]
theorem ret_int {k : IntKind} {a b : Int} (h : a = b) : Ending.returned (.int k a) = .returned (.int k b) := by rw [h]
def allB (p : Int → Bool) (s : ByteArray) : Bool := s.data.toList.all fun c => p c.toNat
theorem allB_not {p : Int → Bool} {s : ByteArray} {k : Nat} (hk : k < s.size) (h : p (s[k].toNat : Int) = false) : allB p s = false := by
  unfold allB
  rw [List.all_eq_false]
  exact ⟨s[k], List.getElem_mem (l := s.data.toList) (by simpa using hk), by simp [h]⟩
theorem allB_of {p : Int → Bool} {s : ByteArray} (h : ∀ k (hk : k < s.size), p (s[k].toNat : Int) = true) : allB p s = true := by
  unfold allB
  rw [List.all_eq_true]
  intro c hc
  obtain ⟨k, hk, rfl⟩ := List.mem_iff_getElem.1 hc
  exact h k (by simpa using hk)
theorem allB_at {p : Int → Bool} {s : ByteArray} (h : allB p s = true) {k : Nat} (hk : k < s.size) : p (s[k].toNat : Int) = true := by
  cases hp : p (s[k].toNat : Int) with
  | true => rfl
  | false => rw [allB_not hk hp] at h; cases h
def dgsB (s : ByteArray) (least most : Int) : Bool := allB digB s && decide (least ≤ (s.size : Int)) && decide ((s.size : Int) ≤ most)
set_option maxHeartbeats 400000 in
theorem wrDigits_any (s : ByteArray) (least most : Int) (w : World) (hs : s.size ≤ maxLen) :
    Calls Tryz.prog 145 #[.string s, .int .i64 least, .int .i64 most] w fun e w' => e = .returned (.bool (dgsB s least most)) ∧ w = w' := by
  unfold maxLen at hs
  go_enter Tryz.func145, Tryz.ntmps145
  go_wp2
  go_loop [7] (fun i => ∃ k : Nat, k ≤ s.size ∧ i = .int .i64 k ∧ Hid (∀ j (hj : j < s.size), j < k → digB (s[j].toNat : Int) = true)) (fun i => s.size - (intOf i).toNat)
  case atStart => exact ⟨0, Nat.zero_le _, rfl, Lib.hid fun j _ h => absurd h (Nat.not_lt_zero _)⟩
  case round =>
    obtain ⟨k, hk, rfl, H⟩ := hrel
    by_cases hlt : k < s.size
    · go_wp2_with (go_at_call 111; refine (wrDigit_any _ _).mono ?_; rintro e w' ⟨rfl, rfl⟩)
      · go_ret
        refine ⟨ret_bool ?_, rfl⟩
        have h0 : (!digB (s[k].toNat : Int)) = true := by assumption
        simp only [Bool.not_eq_true'] at h0
        simp [dgsB, allB_not hlt h0]
      · have h1 : (!digB (s[k].toNat : Int)) = false := by assumption
        simp only [Bool.not_eq_false'] at h1
        go_round
        case rel => exact ⟨k + 1, by omega, by go_num, Lib.hid fun j hj hjk => by
          by_cases e : j = k
          · subst e; exact h1
          · exact H.out j hj (by omega)⟩
        case measure => simp [intOf]; omega
    · have ha : allB digB s = true := allB_of fun j hj => H.out j hj (by omega)
      have HA := Lib.hid ha
      clear ha
      by_cases h1 : least ≤ (s.size : Int)
      all_goals
        go_wp2
        go_ret
        refine ⟨ret_bool ?_, rfl⟩
        simp [dgsB, HA.out, h1]
        try omega
def SomeB (P : Bool → Prop) (w : World) (e : Ending) (w' : World) : Prop := ∃ b : Bool, P b ∧ e = .returned (.bool b) ∧ w = w'
def SomeI (P : Int → Prop) (w : World) (e : Ending) (w' : World) : Prop := ∃ b : Int, P b ∧ e = .returned (.int .i64 b) ∧ w = w'
set_option maxHeartbeats 400000 in
theorem wrWithin_any (c : Int) (s : ByteArray) (w : World) (hs : s.size ≤ maxLen) :
    Calls Tryz.prog 189 #[.int .u8 c, .string s] w (SomeB (fun _ => True) w) := by
  unfold maxLen at hs
  go_enter Tryz.func189, Tryz.ntmps189
  go_wp2
  go_loop [5] (fun i => ∃ k : Nat, k ≤ s.size ∧ i = .int .i64 k) (fun i => s.size - (intOf i).toNat)
  case atStart => exact ⟨0, Nat.zero_le _, rfl⟩
  case round =>
    obtain ⟨k, hk, rfl⟩ := hrel
    by_cases hlt : k < s.size
    · go_wp2
      · go_ret
        exact ⟨_, trivial, rfl, rfl⟩
      · go_round
        case rel => exact ⟨k + 1, by omega, by go_num⟩
        case measure => simp [intOf]; omega
    · go_wp2
      go_ret
      exact ⟨_, trivial, rfl, rfl⟩
theorem empty_of {s : ByteArray} (h : s.size = 0) : s = ByteArray.empty := ByteArray.size_eq_zero_iff.1 h
theorem size_extract_le {t : ByteArray} {i j : Nat} (h : t.size ≤ 2 ^ 63 - 1) : (t.extract i j).size ≤ maxLen := by
  simp [maxLen, ByteArray.size_extract]
  omega
theorem dgsB_size {s : ByteArray} {a b : Int} (h : dgsB s a b = true) : a ≤ (s.size : Int) ∧ (s.size : Int) ≤ b := by
  simp [dgsB] at h
  exact ⟨h.1.2, h.2⟩
def Sgn (s t : ByteArray) : Prop := t = s ∨ ∃ c : UInt8, (c = 45 ∨ c = 43) ∧ s.data.toList = c :: t.data.toList
theorem toList_extract (s : ByteArray) (i j : Nat) : (s.extract i j).data.toList = (s.data.toList.drop i).take (j - i) := by
  simp [ByteArray.data_extract, Array.toList_extract, List.extract_eq_take_drop]
theorem drop_at {s : ByteArray} {k : Nat} (hk : k < s.size) : s.data.toList.drop k = s[k] :: s.data.toList.drop (k + 1) := by
  rw [List.drop_eq_getElem_cons (by simpa using hk)]
  rfl
theorem u8_of_int {c : UInt8} {n : Nat} (hn : n < 256) (h : ((c.toNat : Nat) : Int) = n) : c = UInt8.ofNat n := by
  apply UInt8.toNat_inj.1
  simp
  omega
theorem Sgn.strip {s : ByteArray} (hk : 0 < s.size) (h : (s[0].toNat : Int) = 45 ∨ (s[0].toNat : Int) = 43) : Sgn s (s.extract 1 s.size) := by
  refine .inr ⟨s[0], ?_, ?_⟩
  · rcases h with h | h
    · exact .inl (u8_of_int (n := 45) (by decide) h)
    · exact .inr (u8_of_int (n := 43) (by decide) h)
  · rw [toList_extract, List.take_of_length_le (by simp)]
    exact drop_at hk
theorem Sgn.size {s t : ByteArray} (h : Sgn s t) : t.size ≤ s.size := by
  rcases h with rfl | ⟨c, _, h⟩
  · exact Nat.le_refl _
  · have := congrArg List.length h
    simp at this
    omega
def IntT (t : ByteArray) : Prop := dgsB t 1 18 = true ∧ (1 < t.size → ∀ c ∈ t.data.toList.head?, c ≠ 48)
def FloatT (t : ByteArray) : Prop := ∃ a b : ByteArray, t.data.toList = a.data.toList ++ 46 :: b.data.toList ∧ IntT a ∧ dgsB b 1 6 = true
def Num (s : ByteArray) (k : Int) : Prop := k = 0 ∨ ∃ t, Sgn s t ∧ (k = 3 ∧ IntT t ∨ k = 4 ∧ FloatT t)
theorem split_at {t : ByteArray} {k : Nat} (hk : k < t.size) (h : (t[k].toNat : Int) = 46) : t.data.toList = (t.extract 0 k).data.toList ++ 46 :: (t.extract (k + 1) t.size).data.toList := by
  have e : t[k] = 46 := u8_of_int (n := 46) (by decide) h
  rw [toList_extract, toList_extract, List.drop_zero, Nat.sub_zero, ← e, List.take_of_length_le (l := t.data.toList.drop (k + 1)) (by simp), ← drop_at hk, List.take_append_drop]
theorem lead_b {a : ByteArray} (h0 : 0 < a.size) (h : ¬ (a[0].toNat : Int) = 48) : ∀ c ∈ a.data.toList.head?, c ≠ 48 := by
  intro c hc
  have e : a.data.toList = a[0] :: a.data.toList.drop 1 := by simpa using drop_at h0
  rw [e] at hc
  simp at hc
  subst hc
  intro hc
  rw [hc] at h
  exact h rfl
set_option maxHeartbeats 1000000 in
theorem wrNumber_any (s : ByteArray) (w : World) (hs : s.size ≤ maxLen) :
    Calls Tryz.prog 112 #[.string s] w (SomeI (Num s) w) := by
  unfold maxLen at hs
  go_enter Tryz.func112, Tryz.ntmps112
  go_upto_region 1 with fail
  go_cut [16] (fun x wx => w = wx ∧ ∃ b, x = .bool b ∧ (b = true → ∃ h : 0 < s.size, ((s[0].toNat : Int) = 45 ∨ (s[0].toNat : Int) = 43)))
  case first =>
    by_cases h0 : 0 < s.size
    · go_wp2_with fail
      all_goals
        go_meet
        case rel => exact ⟨rfl, _, rfl, fun h => ⟨h0, by simp_all⟩⟩
    · obtain rfl : s = ByteArray.empty := empty_of (by omega)
      go_wp2_with fail
      go_meet
      case rel => exact ⟨rfl, _, rfl, fun h => by cases h⟩
  case rest =>
  obtain ⟨rfl, b, rfl, hb⟩ := hcut
  have HB := Lib.hid hb
  clear hb
  go_upto_if 16 with fail
  go_cut [0] (fun x wx => w = wx ∧ ∃ t, Sgn s t ∧ x = .string t)
  case first =>
    cases b
    · go_wp2_with fail
      go_meet
      case rel => exact ⟨rfl, _, .inl rfl, rfl⟩
    · obtain ⟨h0, h1⟩ := HB.out rfl
      have H1 := Lib.hid h1
      clear h1
      go_wp2_with fail
      go_meet
      case rel => exact ⟨rfl, _, Sgn.strip h0 H1.out, rfl⟩
  case rest =>
    obtain ⟨rfl, t, hS, rfl⟩ := hcut
    have hsz := hS.size
    have hsm : t.size ≤ 2 ^ 63 - 1 := by omega
    have H := Lib.hid hS
    clear hS
    go_wp2_with fail
    go_loop [3] (fun i => ∃ k : Nat, k ≤ t.size ∧ i = .int .i64 k) (fun i => t.size - (intOf i).toNat)
    case atStart => exact ⟨0, Nat.zero_le _, rfl⟩
    case round =>
      obtain ⟨k, hk, rfl⟩ := hrel
      by_cases hlt : k < t.size
      · go_wp2_with fail
        · go_round
          case rel => exact ⟨k + 1, by omega, by go_num⟩
          case measure => simp [intOf]; omega
        · have hp : (t[k].toNat : Int) = 46 := by simpa using ‹((t[k].toNat : Int) != 46) = false›
          have HP := Lib.hid hp
          clear hp
          refine (wrDigits_any _ _ _ _ (size_extract_le hsm)).mono ?_
          rintro e w' ⟨rfl, rfl⟩
          cases hd : dgsB (t.extract 0 k) 1 18
          · go_wp2_with fail
            go_ret
            exact ⟨0, .inl rfl, rfl, rfl⟩
          · have h1 := dgsB_size hd
            have hk1 : 0 < k := by simp [ByteArray.size_extract] at h1; omega
            have HD := Lib.hid hd
            clear hd h1
            go_wp2_with fail
            · go_ret
              exact ⟨0, .inl rfl, rfl, rfl⟩
            all_goals
              have hz : IntT (t.extract 0 k) := ⟨HD.out, fun hlt => by
                first
                  | (exfalso; have : (k : Int) ≤ 1 := (by assumption); simp [ByteArray.size_extract] at hlt; omega)
                  | exact lead_b (by omega) (by assumption)⟩
              have HZ := Lib.hid hz
              clear hz
              refine (wrDigits_any _ _ _ _ (size_extract_le hsm)).mono ?_
              rintro e w' ⟨rfl, rfl⟩
              cases hd : dgsB (t.extract (k + 1) t.size) 1 6
              all_goals
                have HE := Lib.hid hd
                clear hd
                go_wp2_with fail
                go_ret
              · exact ⟨0, .inl rfl, rfl, rfl⟩
              · exact ⟨4, .inr ⟨t, H.out, .inr ⟨rfl, _, _, split_at hlt HP.out, HZ.out, HE.out⟩⟩, rfl, rfl⟩
      · obtain rfl : k = t.size := by omega
        have e : t.extract 0 t.size = t := by simp
        go_wp2_with fail
        refine (wrDigits_any _ _ _ _ (by first | exact hsm | exact size_extract_le hsm)).mono ?_
        rintro e w' ⟨rfl, rfl⟩
        try rw [e]
        cases hd : dgsB t 1 18
        · go_wp2_with fail
          go_ret
          exact ⟨0, .inl rfl, rfl, rfl⟩
        · have h1 := dgsB_size hd
          have hk1 : 0 < t.size := by omega
          have HD := Lib.hid hd
          clear hd h1
          go_wp2_with fail
          · go_ret
            exact ⟨0, .inl rfl, rfl, rfl⟩
          all_goals
            go_ret
            refine ⟨3, .inr ⟨t, H.out, .inl ⟨rfl, HD.out, fun hlt => ?_⟩⟩, rfl, rfl⟩
            first
              | (exfalso; have : (t.size : Int) ≤ 1 := (by assumption); omega)
              | exact lead_b (by omega) (by assumption)
def nullsL : List (List UInt8) := [[], [110, 117, 108, 108], [78, 117, 108, 108], [78, 85, 76, 76], [126]]
def boolsL : List (List UInt8) := [[116, 114, 117, 101], [84, 114, 117, 101], [84, 82, 85, 69], [102, 97, 108, 115, 101], [70, 97, 108, 115, 101], [70, 65, 76, 83, 69]]
def infsL : List (List UInt8) := [[46, 105, 110, 102], [46, 73, 110, 102], [46, 73, 78, 70], [45, 46, 105, 110, 102], [45, 46, 73, 110, 102], [45, 46, 73, 78, 70], [43, 46, 105, 110, 102], [43, 46, 73, 110, 102], [43, 46, 73, 78, 70]]
def nansL : List (List UInt8) := [[46, 110, 97, 110], [46, 78, 97, 78], [46, 78, 65, 78]]
def KnownP (s : ByteArray) (k : Int) : Prop := (k = 1 ∧ s.data.toList ∈ nullsL) ∨ (k = 2 ∧ s.data.toList ∈ boolsL) ∨ (k = 5 ∧ s.data.toList ∈ infsL) ∨ (k = 6 ∧ s.data.toList ∈ nansL) ∨ Num s k
theorem of_list {s : ByteArray} {l : List UInt8} (h : s.data.toList = l) : s = ⟨l.toArray⟩ := by
  cases s with
  | mk d => subst h; simp
theorem ne_list {s : ByteArray} {l : List UInt8} (h : s.data.toList ≠ l) : (s.toList == l) = false := by
  rw [ByteArray.toList_eq]
  simpa using h
theorem isEmpty_list {s : ByteArray} (h : s.data.toList ≠ []) : s.toList.isEmpty = false := by
  rw [ByteArray.toList_eq]
  simpa using h
theorem Known_no (s : ByteArray) (w : World) (hs : s.size ≤ maxLen) (h1 : ∀ l ∈ nullsL, s.data.toList ≠ l) (h2 : ∀ l ∈ boolsL, s.data.toList ≠ l) (h3 : ∀ l ∈ infsL, s.data.toList ≠ l) (h4 : ∀ l ∈ nansL, s.data.toList ≠ l) :
    Calls Tryz.prog 84 #[.string s] w (SomeI (KnownP s) w) := by
  have e0 := isEmpty_list (h1 [] (by decide))
  simp only [nullsL, boolsL, infsL, nansL, List.forall_mem_cons] at h1 h2 h3 h4
  obtain ⟨-, a1, a2, a3, a4, -⟩ := h1
  obtain ⟨b0, b1, b2, b3, b4, b5, -⟩ := h2
  obtain ⟨c0, c1, c2, c3, c4, c5, c6, c7, c8, -⟩ := h3
  obtain ⟨d0, d1, d2, -⟩ := h4
  replace a1 := ne_list a1
  replace a2 := ne_list a2
  replace a3 := ne_list a3
  replace a4 := ne_list a4
  replace b0 := ne_list b0
  replace b1 := ne_list b1
  replace b2 := ne_list b2
  replace b3 := ne_list b3
  replace b4 := ne_list b4
  replace b5 := ne_list b5
  replace c0 := ne_list c0
  replace c1 := ne_list c1
  replace c2 := ne_list c2
  replace c3 := ne_list c3
  replace c4 := ne_list c4
  replace c5 := ne_list c5
  replace c6 := ne_list c6
  replace c7 := ne_list c7
  replace c8 := ne_list c8
  replace d0 := ne_list d0
  replace d1 := ne_list d1
  replace d2 := ne_list d2
  go_enter Tryz.func84, Tryz.ntmps84
  go_wp2_with (go_at_call 112; refine (wrNumber_any _ _ hs).mono ?_; rintro e w' ⟨k, hk, rfl, rfl⟩)
  go_ret
  exact ⟨k, .inr (.inr (.inr (.inr hk))), rfl, rfl⟩
theorem Known_any (s : ByteArray) (w : World) (hs : s.size ≤ maxLen) :
    Calls Tryz.prog 84 #[.string s] w (SomeI (KnownP s) w) := by
  by_cases h1 : s.data.toList ∈ nullsL
  · refine (Calls.mono (R := fun e w' => e = .returned (.int .i64 1) ∧ w = w') ?_ fun e w' ⟨h2, h3⟩ => ⟨1, .inl ⟨rfl, h1⟩, h2, h3⟩)
    simp only [nullsL, List.mem_cons, List.not_mem_nil, or_false] at h1
    rcases h1 with h | h | h | h | h
    all_goals
      obtain rfl := of_list h
      clear h
      go_enter Tryz.func84, Tryz.ntmps84
      go_wp2_with fail
      go_ret
      exact ⟨rfl, rfl⟩
  by_cases h2 : s.data.toList ∈ boolsL
  · refine (Calls.mono (R := fun e w' => e = .returned (.int .i64 2) ∧ w = w') ?_ fun e w' ⟨h3, h4⟩ => ⟨2, .inr (.inl ⟨rfl, h2⟩), h3, h4⟩)
    simp only [boolsL, List.mem_cons, List.not_mem_nil, or_false] at h2
    clear h1
    rcases h2 with h | h | h | h | h | h
    all_goals
      obtain rfl := of_list h
      clear h
      go_enter Tryz.func84, Tryz.ntmps84
      go_wp2_with fail
      go_ret
      exact ⟨rfl, rfl⟩
  by_cases h3 : s.data.toList ∈ infsL
  · refine (Calls.mono (R := fun e w' => e = .returned (.int .i64 5) ∧ w = w') ?_ fun e w' ⟨h4, h5⟩ => ⟨5, .inr (.inr (.inl ⟨rfl, h3⟩)), h4, h5⟩)
    simp only [infsL, List.mem_cons, List.not_mem_nil, or_false] at h3
    clear h1 h2
    rcases h3 with h | h | h | h | h | h | h | h | h
    all_goals
      obtain rfl := of_list h
      clear h
      go_enter Tryz.func84, Tryz.ntmps84
      go_wp2_with fail
      go_ret
      exact ⟨rfl, rfl⟩
  by_cases h4 : s.data.toList ∈ nansL
  · refine (Calls.mono (R := fun e w' => e = .returned (.int .i64 6) ∧ w = w') ?_ fun e w' ⟨h5, h6⟩ => ⟨6, .inr (.inr (.inr (.inl ⟨rfl, h4⟩))), h5, h6⟩)
    simp only [nansL, List.mem_cons, List.not_mem_nil, or_false] at h4
    clear h1 h2 h3
    rcases h4 with h | h | h
    all_goals
      obtain rfl := of_list h
      clear h
      go_enter Tryz.func84, Tryz.ntmps84
      go_wp2_with fail
      go_ret
      exact ⟨rfl, rfl⟩
  exact Known_no s w hs (fun l hl e => h1 (e ▸ hl)) (fun l hl e => h2 (e ▸ hl)) (fun l hl e => h3 (e ▸ hl)) (fun l hl e => h4 (e ▸ hl))
def WordyP (s : ByteArray) (b : Bool) : Prop := b = true → ∃ h : 0 < s.size, letB (s[0].toNat : Int) = true
set_option maxHeartbeats 1000000 in
theorem Wordy_any (s : ByteArray) (w : World) (hs : s.size ≤ maxLen) :
    Calls Tryz.prog 146 #[.string s] w (SomeB (WordyP s) w) := by
  unfold maxLen at hs
  by_cases h0 : 0 < s.size
  · have e0 : s.toList.isEmpty = false := by rw [empty_iff]; simp; intro e; rw [e] at h0; exact absurd h0 (by decide)
    have hsz : s.size - 1 < s.size := by omega
    cases h1 : letB (s[0].toNat : Int)
    · go_enter Tryz.func146, Tryz.ntmps146
      go_wp2_with (go_at_call 110; refine (wrLetter_any _ _).mono ?_; rintro e w' ⟨rfl, rfl⟩)
      go_ret
      exact ⟨_, (fun h => by cases h), rfl, rfl⟩
    · cases h2 : alB (s[s.size - 1].toNat : Int)
      · go_enter Tryz.func146, Tryz.ntmps146
        go_wp2_with (first | (go_at_call 110; refine (wrLetter_any _ _).mono ?_; rintro e w' ⟨rfl, rfl⟩) | (go_at_call 83; refine (wrAlnum_any _ _).mono ?_; rintro e w' ⟨rfl, rfl⟩))
        go_ret
        exact ⟨_, (fun h => by cases h), rfl, rfl⟩
      · go_enter Tryz.func146, Tryz.ntmps146
        have HW : Hid (∃ h : 0 < s.size, letB (s[0].toNat : Int) = true) := Lib.hid ⟨h0, h1⟩
        go_wp2_with (first | (go_at_call 110; refine (wrLetter_any _ _).mono ?_; rintro e w' ⟨rfl, rfl⟩) | (go_at_call 83; refine (wrAlnum_any _ _).mono ?_; rintro e w' ⟨rfl, rfl⟩))
        go_loop [3] (fun i => ∃ k : Nat, k ≤ s.size ∧ i = .int .i64 k) (fun i => s.size - (intOf i).toNat)
        case atStart => exact ⟨0, Nat.zero_le _, rfl⟩
        case round =>
          obtain ⟨k, hk, rfl⟩ := hrel
          by_cases hlt : k < s.size
          · go_upto_region 6 with fail
            go_cut [55] (fun x wx => w = wx ∧ ∃ b, x = .bool b)
            case first =>
              rcases Nat.eq_zero_or_pos k with rfl | hk1
              all_goals
                go_wp2_with (first | (go_at_call 83; refine (wrAlnum_any _ _).mono ?_; rintro e w' ⟨rfl, rfl⟩) | (go_at_call 189; refine (wrWithin_any _ _ _ (by decide)).mono ?_; rintro e w' ⟨b, -, rfl, rfl⟩))
                all_goals
                  go_meet
                  case rel => exact ⟨rfl, _, rfl⟩
            case rest =>
              obtain ⟨rfl, b, rfl⟩ := hcut
              cases b
              · go_wp2_with fail
                go_round
                case rel => exact ⟨k + 1, by omega, by go_num⟩
                case measure => simp [intOf]; omega
              · go_wp2_with fail
                go_ret
                exact ⟨_, (fun h => by cases h), rfl, rfl⟩
          · go_wp2_with fail
            go_ret
            exact ⟨_, fun _ => HW.out, rfl, rfl⟩
  · obtain rfl : s = ByteArray.empty := empty_of (by omega)
    go_enter Tryz.func146, Tryz.ntmps146
    go_wp2_with fail
    go_ret
    exact ⟨_, (fun h => by cases h), rfl, rfl⟩
end Go.Proofs.YtpajcfkldnbpfaaGreatDoor
namespace Go.Proofs.YtpajcfkldnbpfaaGreatDoor
open Go.RowKit
structure BRow (w : World) (b n : Nat) (t : ByteArray) : Prop where
  size : t.size = n
  row : ∃ cs m k, w.heap[b]? = some (.cells cs 5 (m, m + k)) ∧ n ≤ m
  cell : ∀ j (h : j < t.size), w.cell? ⟨b, j, none⟩ = some (.int .u8 (t[j].toNat : Int))
theorem ud213 : Tryz.prog.underlying 213 = some (.slice 5) := by kernel_rfl
theorem ud5 : Tryz.prog.underlying 5 = some (.int .u8) := by kernel_rfl
theorem ud9 : Tryz.prog.underlying 9 = some .string := by kernel_rfl
def eldersL : List (List UInt8) := [[121], [110], [121, 101, 115], [110, 111], [111, 110], [111, 102, 102], [116, 114, 117, 101], [102, 97, 108, 115, 101], [110, 117, 108, 108], [105, 110, 102], [110, 97, 110]]
def AnyB (w : World) (e : Ending) (w' : World) : Prop := ∃ b : Bool, e = .returned (.bool b) ∧ Below w.heap.size w w'
theorem BRow.frozen {w : World} {b n k : Nat} {t : ByteArray} (h : BRow w b n t) (hk : k < t.size) : w.frozen? ⟨b, k, none⟩ = false := by
  obtain ⟨cs, m, j, h1, h2⟩ := h.row
  have := h.size
  simp [World.frozen?, h1]
  omega
theorem BRow.set {w : World} {b n k : Nat} {t : ByteArray} (h : BRow w b n t) (hk : k < t.size) (c : UInt8) : BRow (w.setCell ⟨b, k, none⟩ (.int .u8 (c.toNat : Int))) b n ⟨t.data.set k c hk⟩ := by
  obtain ⟨cs, m, j, h1, h2⟩ := h.row
  have hc := h.cell k hk
  have hz : (ByteArray.mk (t.data.set k c hk)).size = t.size := Array.size_set ..
  refine ⟨hz.trans h.size, ⟨_, m, j, by rw [setCell_eq_setRow w b k cs 5 _ _ h1]; exact setRow_heap w b _ _ _ _ h1, h2⟩, fun i hi => ?_⟩
  have hi' : i < t.size := hz ▸ hi
  by_cases e : i = k
  · subst e
    rw [World.cell?_setCell_same _ _ _ hc]
    have : (ByteArray.mk (t.data.set i c hk))[i] = c := Array.getElem_set_self _
    rw [this]
  · rw [World.cell?_setCell_other _ _ _ _ (by intro e2; exact e (congrArg Addr.off e2).symm), h.cell i hi']
    have : (ByteArray.mk (t.data.set k c hk))[i] = t[i] := Array.getElem_set_ne _ _ (Ne.symm e)
    rw [this]
theorem BRow.new (w : World) (s : ByteArray) : BRow (Lib.bytesWorld w 5 s) w.heap.size s.size s := by
  refine ⟨rfl, ⟨_, _, 1, Lib.bytesWorld_at_new w 5 s, ?_⟩, fun j hj => ?_⟩
  · simp [Lib.bytesCells]
  · rw [Lib.bytesWorld_cell w 5 s j hj]
    simp [List.getD, hj]
    rfl
set_option maxRecDepth 100000 in
set_option maxHeartbeats 1000000 in
theorem wrElder_any (s : ByteArray) (w : World) (hs : s.size ≤ maxLen) :
    Calls Tryz.prog 147 #[.string s] w (AnyB w) := by
  unfold maxLen at hs
  have hr := BRow.new w s
  have hB : Below w.heap.size w (Lib.bytesWorld w 5 s) := Lib.bytesWorld_below _ _ _
  have hcv := Lib.run_convert_string_bytes (P := Tryz.prog) w 9 213 5 s ud9 ud213 ud5
  obtain ⟨c0, hc0⟩ : ∃ c, c = grownCap w s.size 0 5 := ⟨_, rfl⟩
  obtain ⟨w1, hw1⟩ : ∃ w1, w1 = Lib.bytesWorld w 5 s := ⟨_, rfl⟩
  rw [← hc0, ← hw1] at hcv
  rw [← hw1] at hr hB
  clear hc0 hw1
  have HR := Lib.hid hr
  clear hr
  go_enter Tryz.func147, Tryz.ntmps147
  go_wp2_with fail
  go_loopw [10] (fun i wr => ∃ k : Nat, k ≤ s.size ∧ i = .int .i64 k ∧ ∃ t, Hid (BRow wr w.heap.size s.size t ∧ Below w.heap.size w wr)) (fun i _ => s.size - (intOf i).toNat)
  case atStart => exact ⟨0, Nat.zero_le _, rfl, s, Lib.hid ⟨HR.out, hB⟩⟩
  case round =>
    obtain ⟨k, hk, rfl, t, H⟩ := hrel
    by_cases hlt : k < s.size
    · have hkt : k < t.size := by rw [H.out.1.size]; exact hlt
      have hc := H.out.1.cell k hkt
      have hf := H.out.1.frozen hkt
      go_wp2_with fail
      · go_round
        case rel =>
          have hc2 : (t[k].toNat : Int) + 32 = ((UInt8.ofNat (t[k].toNat + 32)).toNat : Int) := by
            have : (t[k].toNat : Int) ≤ 90 := by assumption
            simp
            omega
          exact ⟨k + 1, by omega, by go_num, _, Lib.hid ⟨by rw [hc2]; exact H.out.1.set hkt _, H.out.2.setCell (Nat.le_refl _) _⟩⟩
        case measure => simp [intOf]; omega
      all_goals
        go_round
        case rel => exact ⟨k + 1, by omega, by go_num, t, H⟩
        case measure => simp [intOf]; omega
    · obtain rfl : k = s.size := by omega
      have hcv := Lib.run_convert_whole (P := Tryz.prog) wr 213 5 9 ud213 ud5 ud9 w.heap.size 0 t (fun j hj => by simpa using H.out.1.cell j hj) c0
      rw [H.out.1.size] at hcv
      have hB := H.out.2
      clear H
      by_cases h1 : t.data.toList ∈ eldersL
      · simp only [eldersL, List.mem_cons, List.not_mem_nil, or_false] at h1
        rcases h1 with h | h | h | h | h | h | h | h | h | h | h
        all_goals
          obtain rfl := of_list h
          clear h
          go_wp2_with fail
          go_ret
          exact ⟨_, rfl, hB⟩
      · have h1 : ∀ l ∈ eldersL, t.data.toList ≠ l := fun l hl e => h1 (e ▸ hl)
        simp only [eldersL, List.forall_mem_cons] at h1
        obtain ⟨c0, c1, c2, c3, c4, c5, c6, c7, c8, c9, c10, -⟩ := h1
        replace c0 := ne_list c0
        replace c1 := ne_list c1
        replace c2 := ne_list c2
        replace c3 := ne_list c3
        replace c4 := ne_list c4
        replace c5 := ne_list c5
        replace c6 := ne_list c6
        replace c7 := ne_list c7
        replace c8 := ne_list c8
        replace c9 := ne_list c9
        replace c10 := ne_list c10
        go_wp2_with fail
        go_ret
        exact ⟨_, rfl, hB⟩
def MeantP (s : ByteArray) (k : Int) : Prop := 0 < k → (KnownP s k ∨ ∃ h : 0 < s.size, letB (s[0].toNat : Int) = true)
def SomeIB (P : Int → Prop) (w : World) (e : Ending) (w' : World) : Prop := ∃ b : Int, P b ∧ e = .returned (.int .i64 b) ∧ Below w.heap.size w w'
def SomeBB (P : Bool → Prop) (w : World) (e : Ending) (w' : World) : Prop := ∃ b : Bool, P b ∧ e = .returned (.bool b) ∧ Below w.heap.size w w'
theorem Meant_any (s : ByteArray) (w : World) (hs : s.size ≤ maxLen) :
    Calls Tryz.prog 113 #[.string s] w (SomeIB (MeantP s) w) := by
  have HS := Lib.hid hs
  clear hs
  go_enter Tryz.func113, Tryz.ntmps113
  go_wp2_with fail
  refine (Known_any _ _ HS.out).mono ?_
  rintro e w' ⟨k, hk, rfl, rfl⟩
  have HK := Lib.hid hk
  clear hk
  by_cases h0 : 0 < k
  · go_wp2_with fail
    go_ret
    exact ⟨k, fun _ => .inl HK.out, rfl, Below.refl _ _⟩
  · go_wp2_with fail
    refine (Wordy_any _ _ HS.out).mono ?_
    rintro e w' ⟨b, hb, rfl, rfl⟩
    have HB := Lib.hid hb
    clear hb
    cases b
    · go_wp2_with fail
      go_ret
      exact ⟨0, fun h => absurd h (by decide), rfl, Below.refl _ _⟩
    · go_wp2_with fail
      refine (wrElder_any _ _ HS.out).mono ?_
      rintro e w1 ⟨b, rfl, hb⟩
      have HW := Lib.hid hb
      clear hb
      cases b
      all_goals
        go_wp2_with fail
        go_ret
      · exact ⟨7, fun _ => .inr (HB.out rfl), rfl, HW.out⟩
      · exact ⟨0, fun h => absurd h (by decide), rfl, HW.out⟩
set_option maxHeartbeats 1000000 in
theorem wrPrintable_any (s : ByteArray) (w : World) (hs : s.size ≤ maxLen) : Calls Tryz.prog 114 #[.string s] w (SomeB (fun _ => True) w) := by
  unfold maxLen at hs
  go_enter Tryz.func114, Tryz.ntmps114
  go_wp2
  go_loop [3] (fun i => ∃ k : Nat, k ≤ s.size ∧ i = .int .i64 k) (fun i => s.size - (intOf i).toNat)
  case atStart => exact ⟨0, Nat.zero_le _, rfl⟩
  case round =>
    obtain ⟨k, hk, rfl⟩ := hrel
    by_cases hlt : k < s.size
    all_goals
      go_wp2
      all_goals first
        | (go_ret; exact ⟨_, trivial, rfl, rfl⟩)
        | (go_round
           case rel => exact ⟨k + 1, by omega, by go_num⟩
           case measure => simp [intOf]; omega)
set_option maxHeartbeats 1000000 in
theorem wrAscii_any (s : ByteArray) (w : World) (hs : s.size ≤ maxLen) : Calls Tryz.prog 117 #[.string s] w (SomeB (fun _ => True) w) := by
  unfold maxLen at hs
  go_enter Tryz.func117, Tryz.ntmps117
  go_wp2
  go_loop [3] (fun i => ∃ k : Nat, k ≤ s.size ∧ i = .int .i64 k) (fun i => s.size - (intOf i).toNat)
  case atStart => exact ⟨0, Nat.zero_le _, rfl⟩
  case round =>
    obtain ⟨k, hk, rfl⟩ := hrel
    by_cases hlt : k < s.size
    all_goals
      go_wp2
      all_goals first
        | (go_ret; exact ⟨_, trivial, rfl, rfl⟩)
        | (go_round
           case rel => exact ⟨k + 1, by omega, by go_num⟩
           case measure => simp [intOf]; omega)
set_option maxHeartbeats 2000000 in
theorem wrBlocky_any (s : ByteArray) (w : World) (hs : s.size ≤ maxLen) : Calls Tryz.prog 115 #[.string s] w (SomeB (fun _ => True) w) := by
  unfold maxLen at hs
  by_cases h0 : 0 < s.size
  · have e0 : s.toList.isEmpty = false := by rw [empty_iff]; simp; intro e; rw [e] at h0; exact absurd h0 (by decide)
    go_enter Tryz.func115, Tryz.ntmps115
    go_upto_region 1 with fail
    go_cut [36] (fun x wx => w = wx ∧ ∃ b, x = .bool b)
    case first =>
      by_cases h1 : 1 < s.size
      all_goals
        go_wp2_with fail
        all_goals
          go_meet
          case rel => exact ⟨rfl, _, rfl⟩
    case rest =>
      obtain ⟨rfl, b, rfl⟩ := hcut
      cases b
      · go_wp2_with fail
        go_loop [3] (fun i => ∃ k : Nat, k ≤ s.size ∧ i = .int .i64 k) (fun i => s.size - (intOf i).toNat)
        case atStart => exact ⟨0, Nat.zero_le _, rfl⟩
        case round =>
          obtain ⟨k, hk, rfl⟩ := hrel
          by_cases hlt : k < s.size
          · by_cases hlt2 : k + 1 < s.size
            all_goals
              go_wp2
              all_goals first
                | (go_ret; exact ⟨_, trivial, rfl, rfl⟩)
                | (go_round
                   case rel => exact ⟨k + 1, by omega, by go_num⟩
                   case measure => simp [intOf]; omega)
          · go_wp2
            go_ret
            exact ⟨_, trivial, rfl, rfl⟩
      · go_wp2_with fail
        go_ret
        exact ⟨_, trivial, rfl, rfl⟩
  · obtain rfl : s = ByteArray.empty := empty_of (by omega)
    go_enter Tryz.func115, Tryz.ntmps115
    go_wp2_with fail
    go_ret
    exact ⟨_, trivial, rfl, rfl⟩
set_option maxHeartbeats 1000000 in
theorem wrFoldable_any (s : ByteArray) (w : World) (hs : s.size < maxLen) : Calls Tryz.prog 116 #[.string s] w (SomeB (fun _ => True) w) := by
  unfold maxLen at hs
  go_enter Tryz.func116, Tryz.ntmps116
  go_wp2_with fail
  go_loop [3] (fun i => ∃ k : Nat, k ≤ s.size ∧ i = .int .i64 k) (fun i => s.size - (intOf i).toNat)
  case atStart => exact ⟨0, Nat.zero_le _, rfl⟩
  case round =>
    obtain ⟨k, hk, rfl⟩ := hrel
    by_cases hlt : k + 1 < s.size
    · have hlt2 : k < s.size := by omega
      go_wp2_with fail
      all_goals first
        | (go_ret; exact ⟨_, trivial, rfl, rfl⟩)
        | (go_round
           case rel => exact ⟨k + 1, by omega, by go_num⟩
           case measure => simp [intOf]; omega)
    · go_wp2_with fail
      refine (wrBlocky_any _ _ (by unfold maxLen; omega)).mono ?_
      rintro e w' ⟨b, -, rfl, rfl⟩
      go_wp2_with fail
      go_ret
      exact ⟨_, trivial, rfl, rfl⟩
end Go.Proofs.YtpajcfkldnbpfaaGreatDoor
namespace Go.Proofs.YtpajcfkldnbpfaaGreatDoor
open Go.RowKit
def slP (oid : Option Nat) : Option Addr := oid.map fun g => ⟨g, 0, none⟩
theorem slV_eq (oid : Option Nat) (n cap : Nat) : slV oid n cap = .slice (slP oid) n cap := rfl
section
variable {P : Program} {w : World} {B : Nat} {Ts : Ch} {w0 : World} {L : Rws} {a : Act} {o : Oper}
theorem St.addNone (h : St B Ts w0 w L) (l : List Value) (t : Nat) : St B Ts w0 w ((none, l, t) :: L) :=
  ⟨h.kp, h.base, fun b l' t' hm => by
    rcases List.mem_cons.1 hm with e | hm
    · cases e
    · exact h.rows b l' t' hm, .cons (fun y _ b hb => by cases hb) h.ne⟩
theorem St.cell (h : St B Ts w0 w L) {b off : Nat} {l : List Value} {t : Nat} {v : Value} (hm : (some b, l, t) ∈ L) (hv : l[off]? = some v) : w.cell? ⟨b, off, none⟩ = some v := by
  simpa [World.cell?, h.heap hm] using hv
theorem St.tail {x : Option Nat × List Value × Nat} (h : St B Ts w0 w (x :: L)) : St B Ts w0 w L := h.sub (List.sublist_cons_self _ _)
theorem run_appH {t ty e sz by_ n cap m b t' : Nat} {oid : Option Nat} {xs sp news : List Value} (hst : St B Ts w0 w ((some b, news, t') :: (oid, xs ++ sp, e) :: L)) (he : elOf P t e sz by_ = true) (hgr : Gr sz oid n cap xs sp) (hsz : 0 < sz)
    (hm : 0 < m) (hl : news.length = m * sz) (h1 : (news.all Value.oneCell') = true) (hby : (n + m) * by_ ≤ 140737488355328) (h63 : n + m ≤ maxLen) :
    ∃ oid' cap' sp' w', (Builtin.append_ #[t, t] ty #[.slice (slP oid) n cap, .slice (some ⟨b, 0, none⟩) m m]).run P w = .ok (.slice (slP oid') (n + m) cap') w' ∧ St B Ts w0 w' ((oid', (xs ++ news) ++ sp', e) :: L) ∧ Gr sz oid' (n + m) cap' (xs ++ news) sp' ∧ oid' ≠ none := by
  have hb := hst.heap (List.mem_cons_self)
  have h2 := hst.tail
  obtain ⟨oid', cap', sp', w', hr, h3, h4, h5⟩ := run_app (P := P) (ty := ty) (w := w) (i := 0) h2 he rfl hgr hsz (p := ⟨b, 0, none⟩) (m := m) (c := m) (news := news) hm hl (fun j v hv => by
    rw [add_lit]
    simp [World.cell?, hb, hv]) h1 hby h63
  exact ⟨oid', cap', sp', w', hr, h3, h4, h5⟩
variable {ops : Array Oper} {rest : List Oper} {Q : Exit → Act → World → Prop}
theorem wl_appH {s x : Operand} {t e sz by_ n cap m b t' : Nat} {oid : Option Nat} {xs sp news : List Value} (hst : St B Ts w0 w ((some b, news, t') :: (oid, xs ++ sp, e) :: L)) (hg : o.guard = none) (ho : o.op = .call { callee := .builtin .append, args := #[s, x], argTypes := #[t, t] })
    (hs : a.eval s = .slice (slP oid) n cap) (hx : a.eval x = .slice (some ⟨b, 0, none⟩) m m) (he : elOf P t e sz by_ = true) (hgr : Gr sz oid n cap xs sp) (hsz : 0 < sz)
    (hm : 0 < m) (hl : news.length = m * sz) (h1 : (news.all Value.oneCell') = true) (hby : (n + m) * by_ ≤ 140737488355328) (h63 : n + m ≤ maxLen)
    (h : ∀ oid' cap' sp' w', St B Ts w0 w' ((oid', (xs ++ news) ++ sp', e) :: L) → Gr sz oid' (n + m) cap' (xs ++ news) sp' → oid' ≠ none → wpList P ops Q rest (a.put o.dst (.slice (slP oid') (n + m) cap')) w') : WL P ops Q (o :: rest) a w := by
  obtain ⟨oid', cap', sp', w', hr, h2, h3, h4⟩ := run_appH (ty := o.type) hst he hgr hsz hm hl h1 hby h63
  exact wl_val hg (ex_app ho hs hx hr) (h oid' cap' sp' w' h2 h3 h4)
theorem run_str {oid : Option Nat} {n cap : Nat} {t : List UInt8} {sp : List Value} {src dst e : TypeId} (hst : St B Ts w0 w ((oid, t.map (fun c => Value.int .u8 (c.toNat : Int)) ++ sp, e) :: L)) (hgr : Gr 1 oid n cap (t.map (fun c => Value.int .u8 (c.toNat : Int))) sp)
    (hs : P.underlying src = some (.slice e)) (he : P.underlying e = some (.int .u8)) (hd : P.underlying dst = some .string) (w' : World) (hw : w'.heap = w.heap) :
    (convert src dst (.slice (slP oid) n cap)).run P w' = .ok (.string ⟨t.toArray⟩) w' := by
  have hl : t.length = n := by simpa using hgr.len
  cases oid with
  | none =>
    have hc := hgr.nil rfl
    have hn : n = 0 := by have := hgr.le; omega
    subst hn
    have : t = [] := List.eq_nil_of_length_eq_zero hl
    subst this
    subst hc
    exact Lib.run_convert_nil_bytes w' src dst e 0 hs he hd
  | some g =>
    have hb := hst.heap (List.mem_cons_self)
    have h := Lib.run_convert_whole (P := P) w' src e dst hs he hd g 0 ⟨t.toArray⟩ (fun i hi => by
      have hi' : i < t.length := hi
      simp only [Nat.zero_add, World.cell?, hw, hb]
      have : (ByteArray.mk t.toArray)[i] = t[i] := rfl
      rw [this]
      simp only [List.getElem?_toArray]
      rw [List.getElem?_append_left (by simpa using hi'), List.getElem?_map, List.getElem?_eq_getElem hi']
      rfl) cap
    have hz : (ByteArray.mk t.toArray).size = n := by rw [← hl]; rfl
    rw [hz] at h
    exact h
end
end Go.Proofs.YtpajcfkldnbpfaaGreatDoor
namespace Go.Proofs.YtpajcfkldnbpfaaGreatDoor
open Go.RowKit
structure Bs (B : Nat) (Ts : Ch) (w0 w : World) (L : Rws) (oid : Option Nat) (n cap : Nat) : Prop where
  ex : ∃ (t : List UInt8) (sp : List Value), t.length = n ∧ St B Ts w0 w ((oid, t.map (fun c => Value.int .u8 (c.toNat : Int)) ++ sp, 5) :: L) ∧ Gr 1 oid n cap (t.map (fun c => Value.int .u8 (c.toNat : Int))) sp
theorem le_size {t : List UInt8} {n : Nat} (h : t.length ≤ n) : (ByteArray.mk t.toArray).size ≤ n := h
def SomeS (P : ByteArray → Prop) (w : World) (e : Ending) (w' : World) : Prop := ∃ t : ByteArray, P t ∧ e = .returned (.string t) ∧ Below w.heap.size w w'
set_option maxRecDepth 100000 in
set_option maxHeartbeats 1000000 in
theorem wrName_any (s : ByteArray) (w : World) (hs : s.size ≤ maxLen) : Calls Tryz.prog 44 #[.string s] w (SomeS (fun t => t.size ≤ 8 ∧ t.size ≤ s.size) w) := by
  unfold maxLen at hs
  go_enter Tryz.func44, Tryz.ntmps44
  go_wp2_with fail
  go_loopw [3, 4] (fun v i wr => ∃ k : Nat, k ≤ s.size ∧ i = .int .i64 k ∧ ∃ oid n cap, v = .slice (slP oid) n cap ∧ n ≤ 8 ∧ n ≤ k ∧ Hid (Bs w.heap.size ⟨[], []⟩ w wr [] oid n cap)) (fun _ i _ => s.size - (intOf i).toNat)
  case atStart => exact ⟨0, Nat.zero_le _, rfl, none, 0, 0, rfl, by omega, by omega, Lib.hid ⟨[], [], rfl, (St.nil _ _ _ (Nat.le_refl _)).addNone [] 5, Gr.empty 1⟩⟩
  case round =>
    obtain ⟨k, hk, rfl, oid, n, cap, rfl, hn, hnk, H⟩ := hrel
    by_cases hlt : k < s.size
    · by_cases hn8 : n < 8
      · obtain ⟨t, sp, ht, hst, hgr⟩ := H.out.ex
        subst ht
        clear H
        go_upto_region 5 with fail
        go_cut [36] (fun x wx => wr = wx ∧ ∃ b, x = .bool b)
        case first =>
          go_wp2_with (first | (go_at_call 83; refine (wrAlnum_any _ _).mono ?_; rintro e w' ⟨rfl, rfl⟩))
          all_goals
            go_meet
            case rel => exact ⟨rfl, _, rfl⟩
        case rest =>
          obtain ⟨rfl, b, rfl⟩ := hcut
          cases b
          · go_wp2_with fail
            go_round
            case rel => exact ⟨k + 1, by omega, by go_num, oid, _, cap, rfl, by omega, by omega, Lib.hid ⟨t, sp, rfl, hst, hgr⟩⟩
            case measure => simp [intOf]; omega
          · go_upto_region 6 with fail
            go_wp2_with ((first | ((with_reducible refine at_bslice ?_); (refine ZS hst ?_; clear hst; (intro b0 w hb0 hst))) | ((with_reducible refine at_append ?_); (refine wl_appH hst rfl rfl rfl rfl (by first | exact el213 | exact el22 | exact el28 | exact el29 | exact el48 | exact el52 | exact el134 | exact el146 | exact el205) hgr (by decide) (by decide) rfl rfl (by omega) (by simp only [maxLen]; omega) ?_; clear hst hgr; intro oid cap sp w hst hgr hno))))
            go_round
            case rel =>
              exact ⟨k + 1, by omega, by go_num, oid, _, cap, rfl, by omega, by omega, Lib.hid ⟨t ++ [s[k]], sp, by simp, by simpa using hst, by simpa using hgr⟩⟩
            case measure => simp [intOf]; omega
      · obtain ⟨t, sp, ht, hst, hgr⟩ := H.out.ex
        subst ht
        have hcv := run_str hst hgr ud213 ud5 ud9 wr rfl
        go_wp2_with fail
        go_ret
        exact ⟨⟨t.toArray⟩, ⟨le_size hn, le_size (by omega)⟩, rfl, hst.kp.below⟩
    · obtain ⟨t, sp, ht, hst, hgr⟩ := H.out.ex
      subst ht
      have hcv := run_str hst hgr ud213 ud5 ud9 wr rfl
      go_wp2_with fail
      go_ret
      exact ⟨⟨t.toArray⟩, ⟨le_size hn, le_size (by omega)⟩, rfl, hst.kp.below⟩
set_option maxRecDepth 100000 in
set_option maxHeartbeats 1000000 in
theorem tag_any (s : ByteArray) (kind : Int) (fb : Nat) (left : Int) (an : Value) (w0 : World) (hs : s.size ≤ maxLen) (hb : w0.heap[fb]? = some (.cells #[.int .i64 63, .int .i64 left, an] 65 (0, 0))) :
    Calls Tryz.prog 45 #[.pointer (some ⟨fb, 0, none⟩), .string s, .int .i64 kind] w0 (SomeS (fun t => t.size ≤ 9 ∧ (s.size = 0 → t.size = 0)) w0) := by
  unfold maxLen at hs
  have HB := Lib.hid hb
  clear hb
  by_cases h0 : 0 < s.size
  · have e0 : s.toList.isEmpty = false := by rw [empty_iff]; simp; intro e; rw [e] at h0; exact absurd h0 (by decide)
    go_enter Tryz.func45, Tryz.ntmps45
    go_wp2_with fail
    refine (has_any w0 fb left 16 an HB.out (by omega)).mono ?_
    rintro e w' ⟨rfl, rfl⟩
    by_cases hpar : (s[0].toNat : Int) % 2 = 1
    · have hp : (((s[0].toNat : Int) % 2) == 1) = true := by simp [hpar]
      clear hpar
      by_cases h2 : kind = 2
      · subst h2
        go_wp2_with fail
        go_ret
        exact ⟨_, ⟨by decide, fun h => absurd h (by omega)⟩, rfl, Below.refl _ _⟩
      have h2' : (kind == 2) = false := by simpa using h2
      by_cases h3 : kind = 3
      · subst h3
        go_wp2_with fail
        go_ret
        exact ⟨_, ⟨by decide, fun h => absurd h (by omega)⟩, rfl, Below.refl _ _⟩
      · have h3' : (kind == 3) = false := by simpa using h3
        go_wp2_with fail
        go_ret
        exact ⟨_, ⟨by decide, fun h => absurd h (by omega)⟩, rfl, Below.refl _ _⟩
    · have hp : (((s[0].toNat : Int) % 2) == 1) = false := by simp [hpar]
      clear hpar
      have hst := St.nil w0.heap.size ⟨[], []⟩ w0 (Nat.le_refl _)
      go_wp2_with ((first | ((with_reducible refine at_bslice ?_); (refine ZS hst ?_; clear hst; (first | ((fail_if_success have := b0); intro b0 w hb0 hst) | (intro b1 w hb1 hst)))) | ((with_reducible refine at_append ?_); (refine wl_appH hst rfl rfl rfl rfl (by first | exact el213 | exact el22 | exact el28 | exact el29 | exact el48 | exact el52 | exact el134 | exact el146 | exact el205) hgr (by decide) (by decide) rfl rfl (by omega) (by simp only [maxLen]; omega) ?_; clear hst hgr; intro oid cap sp w hst hgr hno))))
      go_loopw [7, 8] (fun v i wr => ∃ k : Nat, 1 ≤ k ∧ k ≤ s.size ∧ i = .int .i64 k ∧ ∃ oid n cap, v = .slice (slP oid) n cap ∧ n ≤ 9 ∧ Hid (Bs w0.heap.size ⟨[], []⟩ w0 wr [] oid n cap)) (fun _ i _ => s.size - (intOf i).toNat)
      case atStart => exact ⟨1, by omega, by omega, rfl, some b0, 1, 1, rfl, by omega, Lib.hid ⟨[33], [], rfl, hst, ⟨rfl, rfl, by omega, by decide, fun h => by cases h⟩⟩⟩
      case round =>
        obtain ⟨k, hk1, hk, rfl, oid, n, cap, rfl, hn, H⟩ := hrel
        clear hst hb0
        obtain ⟨t, sp, ht, hst, hgr⟩ := H.out.ex
        subst ht
        clear H
        by_cases hc : k < s.size ∧ t.length ≤ 8
        · obtain ⟨hlt, hn8⟩ := hc
          cases hal : alB (s[k].toNat : Int)
          · go_wp2_with (first | (go_at_call 83; refine (wrAlnum_any _ _).mono ?_; rintro e w' ⟨rfl, rfl⟩))
            go_round
            case rel => exact ⟨k + 1, by omega, by omega, by go_num, oid, _, cap, rfl, by omega, Lib.hid ⟨t, sp, rfl, hst, hgr⟩⟩
            case measure => simp [intOf]; omega
          · go_wp2_with (first | (go_at_call 83; refine (wrAlnum_any _ _).mono ?_; rintro e w' ⟨rfl, rfl⟩) | (first | ((with_reducible refine at_bslice ?_); (refine ZS hst ?_; clear hst; (first | ((fail_if_success have := b0); intro b0 w hb0 hst) | (intro b1 w hb1 hst)))) | ((with_reducible refine at_append ?_); (refine wl_appH hst rfl rfl rfl rfl (by first | exact el213 | exact el22 | exact el28 | exact el29 | exact el48 | exact el52 | exact el134 | exact el146 | exact el205) hgr (by decide) (by decide) rfl rfl (by omega) (by simp only [maxLen]; omega) ?_; clear hst hgr; intro oid cap sp w hst hgr hno))))
            go_round
            case rel => exact ⟨k + 1, by omega, by omega, by go_num, oid, _, cap, rfl, by omega, Lib.hid ⟨t ++ [s[k]], sp, by simp, by simpa using hst, by simpa using hgr⟩⟩
            case measure => simp [intOf]; omega
        · have fin : ∀ (w : World) (t : List UInt8) (sp : List Value) (oid : Option Nat) (cap : Nat), True := fun _ _ _ _ _ => trivial
          by_cases hlt : k < s.size
          · have hn8 : ¬ t.length ≤ 8 := fun h => hc ⟨hlt, h⟩
            clear hc
            have e1 : ((t.length : Int) == 1) = false := by simp; omega
            have hcv := run_str hst hgr ud213 ud5 ud9 wr rfl
            go_wp2_with fail
            go_ret
            exact ⟨⟨t.toArray⟩, ⟨le_size hn, fun h => absurd h (by omega)⟩, rfl, hst.kp.below⟩
          · clear hc
            by_cases hl1 : t.length = 1
            · obtain ⟨c, rfl⟩ : ∃ c, t = [c] := List.length_eq_one_iff.1 hl1
              clear hl1
              go_upto_region 18 with ((first | ((with_reducible refine at_bslice ?_); (refine ZS hst ?_; clear hst; (first | ((fail_if_success have := b0); intro b0 w hb0 hst) | (intro b1 w hb1 hst)))) | ((with_reducible refine at_append ?_); (refine wl_appH hst rfl rfl rfl rfl (by first | exact el213 | exact el22 | exact el28 | exact el29 | exact el48 | exact el52 | exact el134 | exact el146 | exact el205) hgr (by decide) (by decide) rfl rfl (by omega) (by simp only [maxLen]; omega) ?_; clear hst hgr; intro oid cap sp w hst hgr hno))))
              have hcv := run_str (n := 2) (t := [c, 120]) hst hgr ud213 ud5 ud9 w rfl
              go_wp2_with fail
              go_ret
              exact ⟨⟨[c, 120].toArray⟩, ⟨le_size (by decide : 2 ≤ 9), fun h => absurd h (by omega)⟩, rfl, hst.kp.below⟩
            · have e1 : ((t.length : Int) == 1) = false := by simp; omega
              have hcv := run_str hst hgr ud213 ud5 ud9 wr rfl
              go_wp2_with fail
              go_ret
              exact ⟨⟨t.toArray⟩, ⟨le_size hn, fun h => absurd h (by omega)⟩, rfl, hst.kp.below⟩
  · obtain rfl : s = ByteArray.empty := empty_of (by omega)
    go_enter Tryz.func45, Tryz.ntmps45
    go_wp2_with fail
    go_ret
    exact ⟨_, ⟨by decide, fun _ => by decide⟩, rfl, Below.refl _ _⟩
end Go.Proofs.YtpajcfkldnbpfaaGreatDoor
