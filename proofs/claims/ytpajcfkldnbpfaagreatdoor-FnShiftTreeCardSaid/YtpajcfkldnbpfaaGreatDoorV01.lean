/- The words of this proof: a world kept but for blocks of some types, a list of known blocks, and the laws of loads, stores, new blocks and appends over such a list. The laws of single operations over a list of known blocks: loads, stores, new blocks, appends; and regions whose order is drawn. A regio -/
import Derived.Test.YtpajcfkldnbpfaaGreatDoorProg
import Derived.WalkKit
import Derived.WalkLawsBesides
import Derived.WalkSpells
import Derived.OrdersHeld
import Derived.KernelRfl
set_option linter.unusedSimpArgs false
set_option linter.unusedVariables false
namespace Go.Proofs.YtpajcfkldnbpfaaGreatDoor
open Go.RowKit
structure Ch where
  ts : List Nat
  bs : List Nat
instance : Coe (List Nat) Ch := ⟨fun ts => ⟨ts, []⟩⟩
structure Kp (B : Nat) (Ts : Ch) (w w' : World) : Prop where
  os : w'.os = w.os
  tape : w'.tape = w.tape
  output : w'.output = w.output
  size : w.heap.size ≤ w'.heap.size
  low : ∀ k, k < B → w'.heap[k]? = w.heap[k]?
  typ : ∀ (k : Nat) (cs : Array Value) (t : Nat) (fr : Nat × Nat), w.heap[k]? = some (Obj.cells cs t fr) → t ∉ Ts.ts → k ∉ Ts.bs → w'.heap[k]? = some (Obj.cells cs t fr)
theorem Kp.refl (B : Nat) (Ts : Ch) (w : World) : Kp B Ts w w := ⟨rfl, rfl, rfl, Nat.le_refl _, fun _ _ => rfl, fun _ _ _ _ h _ _ => h⟩
theorem Kp.trans {B : Nat} {Ts : Ch} {a b c : World} (h : Kp B Ts a b) (k : Kp B Ts b c) : Kp B Ts a c :=
  ⟨k.os.trans h.os, k.tape.trans h.tape, k.output.trans h.output, Nat.le_trans h.size k.size, fun i hi => (k.low i hi).trans (h.low i hi), fun i cs t fr hi ht hb => k.typ i cs t fr (h.typ i cs t fr hi ht hb) ht hb⟩
theorem Kp.mono {B B' : Nat} {Ts Ts' : Ch} {a b : World} (h : Kp B Ts a b) (hB : B' ≤ B) (hT : ∀ t, t ∈ Ts.ts → t ∈ Ts'.ts) (hb : ∀ b, b ∈ Ts.bs → b ∈ Ts'.bs) : Kp B' Ts' a b :=
  ⟨h.os, h.tape, h.output, h.size, fun i hi => h.low i (by omega), fun i cs t fr hi ht hk => h.typ i cs t fr hi (fun hm => ht (hT t hm)) (fun hm => hk (hb i hm))⟩
theorem Kp.below {B : Nat} {Ts : Ch} {a b : World} (h : Kp B Ts a b) : Below B a b := ⟨h.os, h.tape, h.output, h.size, h.low⟩
theorem lt_of_heap {w : World} {b : Nat} {o : Obj} (h : w.heap[b]? = some o) : b < w.heap.size := (Array.getElem?_eq_some_iff.1 h).1
theorem Kp.of_below {B : Nat} (Ts : Ch) {a b : World} (h : Below a.heap.size a b) (hB : B ≤ a.heap.size) : Kp B Ts a b :=
  ⟨h.os, h.tape, h.output, h.size, fun i hi => h.block i (by omega), fun i cs t fr hi _ _ => (h.block i (lt_of_heap hi)).trans hi⟩
theorem Kp.drew {B : Nat} {Ts : Ch} {a w : World} (h : Kp B Ts a w) : Kp B Ts a w.drew := ⟨h.os, h.tape, h.output, h.size, h.low, h.typ⟩
theorem Kp.alloc {B : Nat} {Ts : Ch} {a w : World} (h : Kp B Ts a w) (hB : B ≤ w.heap.size) (o : Obj) : Kp B Ts a (w.alloc o) :=
  h.trans ⟨rfl, rfl, rfl, by simp, fun k hk => Below.heap_alloc w o k (by omega), fun k cs t fr hk _ _ => (Below.heap_alloc w o k (lt_of_heap hk)).trans hk⟩
abbrev Rws := List (Option Nat × List Value × Nat)
structure St (B : Nat) (Ts : Ch) (w0 w : World) (L : Rws) : Prop where
  kp : Kp B Ts w0 w
  base : B ≤ w0.heap.size
  rows : ∀ (b : Nat) (l : List Value) (t : Nat), (some b, l, t) ∈ L → w.heap[b]? = some (Obj.cells l.toArray t (0, 0)) ∧ (w0.heap.size ≤ b ∨ (B ≤ b ∧ (t ∈ Ts.ts ∨ b ∈ Ts.bs)))
  ne : L.Pairwise fun x y => ∀ b, x.1 = some b → y.1 ≠ some b
theorem St.nil (B : Nat) (Ts : Ch) (w : World) (h : B ≤ w.heap.size) : St B Ts w w [] := ⟨Kp.refl _ _ _, h, (fun _ _ _ h => by cases h), List.Pairwise.nil⟩
theorem St.drew {B : Nat} {Ts : Ch} {w0 w : World} {L : Rws} (h : St B Ts w0 w L) : St B Ts w0 w.drew L := ⟨h.kp.drew, h.base, h.rows, h.ne⟩
theorem St.size {B : Nat} {Ts : Ch} {w0 w : World} {L : Rws} (h : St B Ts w0 w L) : B ≤ w.heap.size := Nat.le_trans h.base h.kp.size
theorem St.heap {B : Nat} {Ts : Ch} {w0 w : World} {L : Rws} (h : St B Ts w0 w L) {b : Nat} {l : List Value} {t : Nat} (hm : (some b, l, t) ∈ L) : w.heap[b]? = some (Obj.cells l.toArray t (0, 0)) := (h.rows b l t hm).1
theorem St.keep {B : Nat} {Ts : Ch} {w0 w w' : World} {L : Rws} (h : St B Ts w0 w L) {B' : Nat} {Ts' : Ch} (k : Kp B' Ts' w w') (hB : B ≤ B') (hT : ∀ t, t ∈ Ts'.ts → t ∈ Ts.ts)
    (hL : (L.all fun x => !Ts'.ts.contains x.2.2) = true) (hN : Ts'.bs = []) : St B Ts w0 w' L := by
  refine ⟨h.kp.trans (k.mono hB hT (fun b hb => by rw [hN] at hb; cases hb)), h.base, fun b l t hm => ⟨k.typ b _ t _ (h.heap hm) ?_ (by rw [hN]; exact List.not_mem_nil), (h.rows b l t hm).2⟩, h.ne⟩
  have := List.all_eq_true.1 hL _ hm
  intro hc
  simp only [Bool.not_eq_true', List.contains_eq_mem, decide_eq_false_iff_not] at this
  exact this hc
theorem St.below {B : Nat} {Ts : Ch} {w0 w w' : World} {L : Rws} (h : St B Ts w0 w L) (k : Below w.heap.size w w') : St B Ts w0 w' L :=
  h.keep (Kp.of_below ⟨[], []⟩ k (Nat.le_refl _)) h.size (fun _ h => by cases h) (by simp) rfl
theorem St.sub {B : Nat} {Ts : Ch} {w0 w : World} {L L' : Rws} (h : St B Ts w0 w L) (hs : L'.Sublist L) : St B Ts w0 w L' :=
  ⟨h.kp, h.base, fun b l t hm => h.rows b l t (hs.subset hm), h.ne.sublist hs⟩
theorem St.new {B : Nat} {Ts : Ch} {w0 w : World} {L : Rws} (h : St B Ts w0 w L) (l : List Value) (t : Nat) : St B Ts w0 (w.alloc (Obj.cells l.toArray t)) ((some w.heap.size, l, t) :: L) := by
  refine ⟨h.kp.alloc h.size _, h.base, fun b l' t' hm => ?_, List.Pairwise.cons (fun y hy b hb => ?_) h.ne⟩
  · rcases List.mem_cons.1 hm with e | hm
    · cases e
      exact ⟨Go.heap_alloc_new w _, .inl h.kp.size⟩
    · exact ⟨(Below.heap_alloc w _ b (lt_of_heap (h.heap hm))).trans (h.heap hm), (h.rows b l' t' hm).2⟩
  · cases hb
    intro hc
    obtain ⟨yb, yl, yt⟩ := y
    simp only at hc
    subst hc
    have := lt_of_heap (h.heap hy)
    omega
theorem mem_set_cases {α : Type} {L : List α} {i : Nat} {e x : α} (h : x ∈ L.set i e) : x = e ∨ ∃ j, j ≠ i ∧ L[j]? = some x := by
  obtain ⟨j, hj⟩ := List.mem_iff_getElem?.1 h
  rw [List.getElem?_set] at hj
  split at hj
  · split at hj
    · exact .inl (Option.some.inj hj).symm
    · cases hj
  · rename_i hne
    exact .inr ⟨j, fun e => hne e.symm, hj⟩
theorem St.ne_of {B : Nat} {Ts : Ch} {w0 w : World} {L : Rws} (h : St B Ts w0 w L) {i j : Nat} (hij : i ≠ j) {x y : Option Nat × List Value × Nat} (hi : L[i]? = some x) (hj : L[j]? = some y) :
    ∀ b, x.1 = some b → y.1 ≠ some b := by
  have hp := List.pairwise_iff_getElem.1 h.ne
  obtain ⟨hi1, hi2⟩ := List.getElem?_eq_some_iff.1 hi
  obtain ⟨hj1, hj2⟩ := List.getElem?_eq_some_iff.1 hj
  intro b hb hc
  rcases Nat.lt_or_gt_of_ne hij with hlt | hlt
  · exact hp i j hi1 hj1 hlt b (by rw [hi2]; exact hb) (by rw [hj2]; exact hc)
  · exact hp j i hj1 hi1 hlt b (by rw [hj2]; exact hc) (by rw [hi2]; exact hb)
theorem pairwise_set {α : Type} {R : α → α → Prop} : ∀ {L : List α} {i : Nat} {e x : α}, L[i]? = some x → (∀ y, R x y → R e y) → (∀ y, R y x → R y e) → L.Pairwise R → (L.set i e).Pairwise R
  | [], _, _, _, h, _, _, _ => by simp at h
  | a :: L, 0, e, x, h, h1, _, hp => by
    simp only [List.getElem?_cons_zero, Option.some.injEq] at h
    subst h
    cases hp with
    | cons ha hp => exact .cons (fun y hy => h1 y (ha y hy)) hp
  | a :: L, i + 1, e, x, h, h1, h2, hp => by
    simp only [List.getElem?_cons_succ] at h
    cases hp with
    | cons ha hp =>
      refine .cons (fun y hy => ?_) (pairwise_set h h1 h2 hp)
      rcases List.mem_or_eq_of_mem_set hy with hy | rfl
      · exact ha y hy
      · exact h2 _ (ha _ (List.mem_of_getElem? h))
theorem St.set {B : Nat} {Ts : Ch} {w0 w : World} {L : Rws} (h : St B Ts w0 w L) {i b : Nat} {l : List Value} {t : Nat} (hi : L[i]? = some (some b, l, t)) (l' : List Value) :
    St B Ts w0 (w.setRow b l'.toArray) (L.set i (some b, l', t)) := by
  have hm := List.mem_of_getElem? hi
  have hb := h.heap hm
  have hw := (h.rows b l t hm).2
  refine ⟨⟨h.kp.os, h.kp.tape, h.kp.output, by simpa using h.kp.size, fun k hk => ?_, fun k cs t' fr hk ht hkb => ?_⟩, h.base, fun b' l2 t' hm' => ?_, ?_⟩
  · have := h.base
    rw [setRow_other w b k _ (by rcases hw with hw | hw <;> omega)]
    exact h.kp.low k hk
  · have hlt := lt_of_heap hk
    have hk' := h.kp.typ k cs t' fr hk ht hkb
    by_cases e : k = b
    · subst e
      rcases hw with hw | ⟨_, hw | hw⟩
      · omega
      · rw [hb] at hk'
        cases hk'
        exact absurd hw ht
      · exact absurd hw hkb
    · rw [setRow_other w b k _ e]
      exact hk'
  · rcases mem_set_cases hm' with e | ⟨j, hj, hj'⟩
    · cases e
      exact ⟨setRow_heap w b _ _ t _ hb, hw⟩
    · have hne : b' ≠ b := fun e => by
        subst e
        exact h.ne_of (i := i) (j := j) (fun e => hj e.symm) hi hj' b' rfl rfl
      have hm2 := List.mem_of_getElem? hj'
      exact ⟨(setRow_other w b b' _ hne).trans (h.heap hm2), (h.rows b' l2 t' hm2).2⟩
  · exact pairwise_set hi (fun y hy b' hb' => hy b' hb') (fun y hy b' hb' => hy b' hb') h.ne
theorem St.watch {B : Nat} {Ts : Ch} {w0 w : World} {L : Rws} (h : St B Ts w0 w L) (bs : List Nat) (hb : ∀ b l t, (some b, l, t) ∈ L → t ∈ Ts.ts ∨ b ∈ bs) : St B ⟨Ts.ts, bs⟩ w w L :=
  ⟨Kp.refl _ _ _, h.size, fun b l t hm => ⟨h.heap hm, .inr ⟨by have := h.base; rcases (h.rows b l t hm).2 with h1 | h1 <;> omega, hb b l t hm⟩⟩, h.ne⟩
theorem St.unwatch {B : Nat} {Ts : Ch} {w0 w1 w : World} {L1 L : Rws} {bs : List Nat} (h : St B Ts w0 w1 L1) (h2 : St B ⟨Ts.ts, bs⟩ w1 w L) (hb : ∀ b ∈ bs, w0.heap.size ≤ b) : St B Ts w0 w L := by
  refine ⟨⟨h2.kp.os.trans h.kp.os, h2.kp.tape.trans h.kp.tape, h2.kp.output.trans h.kp.output, Nat.le_trans h.kp.size h2.kp.size, fun k hk => (h2.kp.low k hk).trans (h.kp.low k hk), fun k cs t fr hk ht hkb => ?_⟩, h.base, fun b l t hm => ⟨h2.heap hm, ?_⟩, h2.ne⟩
  · refine h2.kp.typ k cs t fr (h.kp.typ k cs t fr hk ht hkb) ht fun hc => ?_
    have h3 := hb k hc
    have h4 := lt_of_heap hk
    omega
  · have h3 := h.kp.size
    have h4 := h.base
    rcases (h2.rows b l t hm).2 with h5 | ⟨h5, h6 | h6⟩
    · exact .inl (by omega)
    · exact .inr ⟨h5, .inl h6⟩
    · exact .inl (hb b h6)
def aggOf (P : Program) (T n : Nat) : Bool := (match P.underlying T with | some (.struct _) | some (.array _ _) => true | _ => false) && (match P.info? T with | some i => i.size == n | none => false)
def oneOf (P : Program) (T : Nat) : Bool := (match P.underlying T with | some (.struct _) | some (.array _ _) | none => false | some _ => true)
def szOf (P : Program) (T n : Nat) : Bool := (match P.info? T with | some i => i.size == n | none => false)
section
variable {P : Program} {w : World}
theorem szOf_spec {T n : Nat} (h : szOf P T n = true) : ∃ i, P.info? T = some i ∧ i.size = n := by
  unfold szOf at h
  split at h
  · rename_i i hi; exact ⟨i, hi, by simpa using h⟩
  · cases h
theorem run_isAgg_true {T n : Nat} (h : aggOf P T n = true) : (isAgg T).run P w = .ok true w := by
  unfold aggOf at h
  simp only [Bool.and_eq_true] at h
  obtain ⟨h, _⟩ := h
  split at h <;> first | cases h | skip
  all_goals (rename_i hu; simp [isAgg, run_underlying hu])
theorem run_isAgg_false {T : Nat} (h : oneOf P T = true) : (isAgg T).run P w = .ok false w := by
  unfold oneOf at h
  split at h <;> first | cases h | skip
  rename_i d h1 h2 hu
  unfold isAgg
  rw [Sem.run_bind, run_underlying hu w]
  cases d <;> simp_all
theorem run_sizeOf {T n : Nat} (h : szOf P T n = true) : (sizeOf T).run P w = .ok n w := by
  obtain ⟨i, hi, rfl⟩ := szOf_spec h
  simp [sizeOf, typeInfo, hi]
theorem add_lit (b o j : Nat) : (⟨b, o, none⟩ : Addr).add j = ⟨b, o + j, none⟩ := by unfold Addr.add; split <;> simp_all
theorem run_load_cells {T : Nat} {b o : Nat} {vs : List Value} (hT : aggOf P T vs.length = true) (h : ∀ j v, vs[j]? = some v → w.cell? ⟨b, o + j, none⟩ = some v) :
    (loadVar T ⟨b, o, none⟩).run P w = .ok (.agg vs.toArray) w := by
  have hs : szOf P T vs.length = true := by
    unfold aggOf at hT
    simp only [Bool.and_eq_true] at hT
    exact hT.2
  have hl := run_loadCells_list (P := P) w ⟨b, o, none⟩ vs (fun j v hv => by rw [add_lit]; exact h j v hv)
  simp [loadVar, Sem.run_bind, run_isAgg_true hT, run_sizeOf hs, hl]
theorem run_load_one {T : Nat} {a : Addr} {v : Value} (hT : oneOf P T = true) (h : w.cell? a = some v) : (loadVar T a).run P w = .ok v w := by
  simp [loadVar, Sem.run_bind, run_isAgg_false hT, load, Sem.run, h]
end
end Go.Proofs.YtpajcfkldnbpfaaGreatDoor
namespace Go.Proofs.YtpajcfkldnbpfaaGreatDoor
open Go.RowKit
section
variable {P : Program} {w : World} {B : Nat} {Ts : Ch} {w0 : World} {L : Rws} {a : Act} {o : Oper}
theorem ex_load {T : Nat} {x : Operand} {p : Addr} {v : Value} (ho : o.op = .load T x) (hx : a.eval x = .pointer (some p)) (hr : (loadVar T p).run P w = .ok v w) :
    (execOp a.eval o).run P w = .ok (.value v) w := by simp [execOp, ho, Instr.loadAt, hx, Instr.sureAddr, hr]
theorem ld_whole (hst : St B Ts w0 w L) {T : Nat} {x : Operand} {b : Nat} {l : List Value} {t : Nat} (ho : o.op = .load T x) (hx : a.eval x = .pointer (some ⟨b, 0, none⟩)) (hm : (some b, l, t) ∈ L) (hT : aggOf P T l.length = true) :
    (execOp a.eval o).run P w = .ok (.value (.agg l.toArray)) w :=
  ex_load ho hx (run_load_cells hT fun j v hv => by simpa [World.cell?, hst.heap hm] using hv)
theorem ld_part (hst : St B Ts w0 w L) {T : Nat} {x : Operand} {b off n : Nat} {l : List Value} {t : Nat} (ho : o.op = .load T x) (hx : a.eval x = .pointer (some ⟨b, off, none⟩)) (hm : (some b, l, t) ∈ L) (hT : aggOf P T n = true) (hn : off + n ≤ l.length) :
    (execOp a.eval o).run P w = .ok (.value (.agg ((l.drop off).take n).toArray)) w :=
  ex_load ho hx (run_load_cells (by simpa [Nat.min_eq_left (show n ≤ l.length - off by omega)] using hT) fun j v hv => by
    rw [List.getElem?_take] at hv
    split at hv
    · simpa [World.cell?, hst.heap hm, List.getElem?_drop] using hv
    · cases hv)
theorem ld_one (hst : St B Ts w0 w L) {T : Nat} {x : Operand} {b off : Nat} {l : List Value} {t : Nat} {v : Value} (ho : o.op = .load T x) (hx : a.eval x = .pointer (some ⟨b, off, none⟩)) (hm : (some b, l, t) ∈ L) (hT : oneOf P T = true) (hv : l[off]? = some v) :
    (execOp a.eval o).run P w = .ok (.value v) w :=
  ex_load ho hx (run_load_one hT (by simpa [World.cell?, hst.heap hm] using hv))
theorem ld_cells {T : Nat} {x : Operand} {b off : Nat} {vs : List Value} (ho : o.op = .load T x) (hx : a.eval x = .pointer (some ⟨b, off, none⟩)) (hT : aggOf P T vs.length = true) (h : ∀ j v, vs[j]? = some v → w.cell? ⟨b, off + j, none⟩ = some v) :
    (execOp a.eval o).run P w = .ok (.value (.agg vs.toArray)) w := ex_load ho hx (run_load_cells hT h)
theorem ld_cell {T : Nat} {x : Operand} {p : Addr} {v : Value} (ho : o.op = .load T x) (hx : a.eval x = .pointer (some p)) (hT : oneOf P T = true) (h : w.cell? p = some v) :
    (execOp a.eval o).run P w = .ok (.value v) w := ex_load ho hx (run_load_one hT h)
theorem ex_store {T : Nat} {x y : Operand} {b off n : Nat} {l : List Value} {t : Nat} (ho : o.op = .store T x y) (hx : a.eval x = .pointer (some ⟨b, off, none⟩)) (hs : szOf P T n = true) (hn : (a.eval y).cells.size = n)
    (hb : w.heap[b]? = some (.cells l.toArray t (0, 0))) (hl : off + n ≤ l.length) (h1 : ∀ v ∈ (a.eval y).cells.toList, v.oneCell' = true) :
    (execOp a.eval o).run P w = .ok .skip (w.setRow b (l.take off ++ (a.eval y).cells.toList ++ l.drop (off + n)).toArray) := by
  have h := run_storeCells_at P b off t (a.eval y).cells.toList 0 l.toArray w hb (by simpa [hn] using hl) h1
  simp only [Nat.add_zero, Array.length_toList, hn] at h
  simp [execOp, ho, Instr.storeAt, hx, Instr.sureAddr, storeVar, run_sizeOf hs, hn, h]
theorem st_whole (hst : St B Ts w0 w L) {T : Nat} {x y : Operand} {i b : Nat} {l vs : List Value} {t : Nat} (ho : o.op = .store T x y) (hx : a.eval x = .pointer (some ⟨b, 0, none⟩)) (hy : a.eval y = .agg vs.toArray)
    (hi : L[i]? = some (some b, l, t)) (hs : szOf P T vs.length = true) (hl : l.length = vs.length) (h1 : (vs.all Value.oneCell') = true) :
    ∃ w', (execOp a.eval o).run P w = .ok .skip w' ∧ St B Ts w0 w' (L.set i (some b, vs, t)) := by
  refine ⟨_, ex_store ho hx (n := vs.length) hs (by simp [hy, Value.cells]) (hst.heap (List.mem_of_getElem? hi)) (by omega) (by simpa [hy, Value.cells] using h1), ?_⟩
  have := hst.set hi (l.take 0 ++ (a.eval y).cells.toList ++ l.drop (0 + vs.length))
  simpa [hy, Value.cells, List.drop_eq_nil_of_le (show l.length ≤ vs.length by omega)] using this
theorem st_part (hst : St B Ts w0 w L) {T : Nat} {x y : Operand} {i b off : Nat} {l vs : List Value} {t : Nat} (ho : o.op = .store T x y) (hx : a.eval x = .pointer (some ⟨b, off, none⟩)) (hy : a.eval y = .agg vs.toArray)
    (hi : L[i]? = some (some b, l, t)) (hs : szOf P T vs.length = true) (hl : off + vs.length ≤ l.length) (h1 : (vs.all Value.oneCell') = true) :
    ∃ w', (execOp a.eval o).run P w = .ok .skip w' ∧ St B Ts w0 w' (L.set i (some b, l.take off ++ vs ++ l.drop (off + vs.length), t)) := by
  refine ⟨_, ex_store ho hx (n := vs.length) hs (by simp [hy, Value.cells]) (hst.heap (List.mem_of_getElem? hi)) hl (by simpa [hy, Value.cells] using h1), ?_⟩
  have := hst.set hi (l.take off ++ (a.eval y).cells.toList ++ l.drop (off + vs.length))
  simpa [hy, Value.cells] using this
theorem oneCell_cells {v : Value} (h : v.oneCell' = true) : v.cells = #[v] := by cases v <;> first | rfl | cases h
theorem set_as_splice {l : List Value} {off : Nat} {v : Value} (h : off < l.length) : l.take off ++ [v] ++ l.drop (off + 1) = l.set off v := by
  rw [List.set_eq_take_append_cons_drop, if_pos h]
  simp
theorem st_one (hst : St B Ts w0 w L) {T : Nat} {x y : Operand} {i b off : Nat} {l : List Value} {v : Value} {t : Nat} (ho : o.op = .store T x y) (hx : a.eval x = .pointer (some ⟨b, off, none⟩)) (hy : a.eval y = v)
    (hi : L[i]? = some (some b, l, t)) (hs : szOf P T 1 = true) (hl : off < l.length) (h1 : v.oneCell' = true) :
    ∃ w', (execOp a.eval o).run P w = .ok .skip w' ∧ St B Ts w0 w' (L.set i (some b, l.set off v, t)) := by
  subst hy
  refine ⟨_, ex_store ho hx (n := 1) hs (by simp [oneCell_cells h1]) (hst.heap (List.mem_of_getElem? hi)) (by omega) (by simp [oneCell_cells h1, h1]), ?_⟩
  have := hst.set hi (l.take off ++ (a.eval y).cells.toList ++ l.drop (off + 1))
  rw [oneCell_cells h1] at this ⊢
  rw [← set_as_splice hl]
  exact this
variable {ops : Array Oper} {rest : List Oper} {Q : Exit → Act → World → Prop}
def WL (P : Program) (ops : Array Oper) (Q : Exit → Act → World → Prop) (l : List Oper) (a : Act) (w : World) : Prop := wpList P ops Q l a w
theorem wl_at {o : Oper} (h : WL P ops Q (o :: rest) a w) : wpList P ops Q (o :: rest) a w := h
theorem at_load {d : Option Tmp} {T ty : TypeId} {x : Operand} {ps : String} {af : Array Edge} (h : WL P ops Q (⟨d, .load T x, ty, ps, af, none⟩ :: rest) a w) : wpList P ops Q (⟨d, .load T x, ty, ps, af, none⟩ :: rest) a w := h
theorem at_store {d : Option Tmp} {T ty : TypeId} {x y : Operand} {ps : String} {af : Array Edge} (h : WL P ops Q (⟨d, .store T x y, ty, ps, af, none⟩ :: rest) a w) : wpList P ops Q (⟨d, .store T x y, ty, ps, af, none⟩ :: rest) a w := h
theorem at_alloc {d : Option Tmp} {T ty : TypeId} {ps : String} {af : Array Edge} (h : WL P ops Q (⟨d, .alloc T, ty, ps, af, none⟩ :: rest) a w) : wpList P ops Q (⟨d, .alloc T, ty, ps, af, none⟩ :: rest) a w := h
theorem at_box {d : Option Tmp} {T ty : TypeId} {x : Operand} {ps : String} {af : Array Edge} (h : WL P ops Q (⟨d, .box T x, ty, ps, af, none⟩ :: rest) a w) : wpList P ops Q (⟨d, .box T x, ty, ps, af, none⟩ :: rest) a w := h
theorem at_bslice {d : Option Tmp} {T n ty : TypeId} {x : Array (Nat × Operand)} {ps : String} {af : Array Edge} (h : WL P ops Q (⟨d, .buildSlice T n x, ty, ps, af, none⟩ :: rest) a w) : wpList P ops Q (⟨d, .buildSlice T n x, ty, ps, af, none⟩ :: rest) a w := h
theorem at_append {d : Option Tmp} {ty t : TypeId} {x y : Operand} {ps : String} {af : Array Edge} (h : WL P ops Q (⟨d, .call { callee := .builtin .append, args := #[x, y], argTypes := #[t, t] }, ty, ps, af, none⟩ :: rest) a w) : wpList P ops Q (⟨d, .call { callee := .builtin .append, args := #[x, y], argTypes := #[t, t] }, ty, ps, af, none⟩ :: rest) a w := h
theorem wl_val {v : Value} {w' : World} (hg : o.guard = none) (hr : (execOp a.eval o).run P w = .ok (.value v) w') (h : wpList P ops Q rest (a.put o.dst v) w') : WL P ops Q (o :: rest) a w :=
  wpList_plain hg fun K hK => by
    unfold Oper.wp
    rw [hr]
    exact hK _ _ h
theorem wl_skip {w' : World} (hg : o.guard = none) (hr : (execOp a.eval o).run P w = .ok .skip w') (h : wpList P ops Q rest (a.put o.dst undef) w') : WL P ops Q (o :: rest) a w :=
  wpList_plain hg fun K hK => by
    unfold Oper.wp
    rw [hr]
    exact hK _ _ h
theorem wl_st {L' : Rws} (hg : o.guard = none) (hr : ∃ w', (execOp a.eval o).run P w = .ok .skip w' ∧ St B Ts w0 w' L') (h : ∀ w', St B Ts w0 w' L' → wpList P ops Q rest (a.put o.dst undef) w') : WL P ops Q (o :: rest) a w := by
  obtain ⟨w', hr, hst⟩ := hr
  exact wl_skip hg hr (h w' hst)
theorem wl_new (hst : St B Ts w0 w L) {l : List Value} {t : Nat} (hg : o.guard = none) (hr : (execOp a.eval o).run P w = .ok (.value (.pointer (some ⟨w.heap.size, 0, none⟩))) (w.alloc (.cells l.toArray t)))
    (h : ∀ b w', w0.heap.size ≤ b → St B Ts w0 w' ((some b, l, t) :: L) → wpList P ops Q rest (a.put o.dst (.pointer (some ⟨b, 0, none⟩))) w') : WL P ops Q (o :: rest) a w :=
  wl_val hg hr (h _ _ hst.kp.size (hst.new l t))
theorem wl_newS (hst : St B Ts w0 w L) {l : List Value} {t n c : Nat} (hg : o.guard = none) (hr : (execOp a.eval o).run P w = .ok (.value (.slice (some ⟨w.heap.size, 0, none⟩) n c)) (w.alloc (.cells l.toArray t)))
    (h : ∀ b w', w0.heap.size ≤ b → St B Ts w0 w' ((some b, l, t) :: L) → wpList P ops Q rest (a.put o.dst (.slice (some ⟨b, 0, none⟩) n c)) w') : WL P ops Q (o :: rest) a w :=
  wl_val hg hr (h _ _ hst.kp.size (hst.new l t))
end
structure Gr (sz : Nat) (oid : Option Nat) (n cap : Nat) (xs sp : List Value) : Prop where
  len : xs.length = n * sz
  all : xs.length + sp.length = cap * sz
  le : n ≤ cap
  max : cap ≤ maxLen
  nil : oid = none → cap = 0
def slV (oid : Option Nat) (n cap : Nat) : Value := .slice (oid.map fun g => ⟨g, 0, none⟩) n cap
theorem Gr.empty (sz : Nat) : Gr sz none 0 0 [] [] := ⟨by simp, by simp, Nat.le_refl _, by simp [maxLen], fun _ => rfl⟩
def elOf (P : Program) (t e sz by_ : Nat) : Bool := (match P.underlying t with | some (.slice e') => e' == e | _ => false) && (match P.info? e with | some i => i.size == sz && i.bytes == by_ && (match i.zero with | some z => z.cells.size == sz | none => false) | none => false)
theorem elOf_spec {P : Program} {t e sz by_ : Nat} (h : elOf P t e sz by_ = true) : P.underlying t = some (.slice e) ∧ ∃ i z, P.info? e = some i ∧ i.zero = some z ∧ i.size = sz ∧ i.bytes = by_ ∧ z.cells.size = sz := by
  unfold elOf at h
  simp only [Bool.and_eq_true] at h
  obtain ⟨h1, h2⟩ := h
  split at h1
  · rename_i e' he
    have : e' = e := by simpa using h1
    subst this
    refine ⟨he, ?_⟩
    split at h2
    · rename_i i hi
      simp only [Bool.and_eq_true, beq_iff_eq] at h2
      obtain ⟨⟨h3, h4⟩, h5⟩ := h2
      split at h5
      · rename_i z hz
        exact ⟨i, z, hi, hz, h3, h4, by simpa using h5⟩
      · cases h5
    · cases h2
  · cases h1
theorem St.replace {B : Nat} {Ts : Ch} {w0 w : World} {L : Rws} (h : St B Ts w0 w L) {i : Nat} {x : Option Nat × List Value × Nat} (hi : L[i]? = some x) (l' : List Value) (t : Nat) :
    St B Ts w0 (w.drew.alloc (.cells l'.toArray t)) (L.set i (some w.heap.size, l', t)) := by
  have hn := h.drew.new l' t
  refine ⟨hn.kp, hn.base, fun b l2 t' hm => ?_, ?_⟩
  · rcases mem_set_cases hm with e | ⟨j, _, hj⟩
    · exact hn.rows b l2 t' (by rw [e]; exact List.mem_cons_self)
    · exact hn.rows b l2 t' (List.mem_cons_of_mem _ (List.mem_of_getElem? hj))
  · have fresh : ∀ y, y ∈ L → y.1 ≠ some w.heap.size := fun y hy e => by
      obtain ⟨yb, yl, yt⟩ := y
      simp only at e
      subst e
      have := lt_of_heap (h.heap hy)
      omega
    clear hn
    have hp := h.ne
    clear h
    induction L generalizing i with
    | nil => simp
    | cons y L ih =>
      cases hp with
      | cons ha hp =>
        cases i with
        | zero =>
          refine .cons (fun z hz b hb => ?_) hp
          cases hb
          exact fresh z (List.mem_cons_of_mem _ hz)
        | succ i =>
          refine .cons (fun z hz b hb => ?_) (ih (by simpa using hi) (fun z hz => fresh z (List.mem_cons_of_mem _ hz)) hp)
          rcases List.mem_or_eq_of_mem_set hz with hz | rfl
          · exact ha z hz b hb
          · intro e
            have := fresh y List.mem_cons_self
            rw [hb] at this
            exact this e.symm
section
variable {P : Program} {w : World} {B : Nat} {Ts : Ch} {w0 : World} {L : Rws} {a : Act} {o : Oper}
theorem run_app (hst : St B Ts w0 w L) {t ty e sz by_ i n cap : Nat} {oid : Option Nat} {xs sp : List Value} (he : elOf P t e sz by_ = true) (hi : L[i]? = some (oid, xs ++ sp, e)) (hgr : Gr sz oid n cap xs sp) (hsz : 0 < sz)
    {p : Addr} {m c : Nat} {news : List Value} (hm : 0 < m) (hl : news.length = m * sz) (hnews : ∀ j v, news[j]? = some v → w.cell? (p.add j) = some v) (h1 : (news.all Value.oneCell') = true)
    (hby : (n + m) * by_ ≤ 140737488355328) (h63 : n + m ≤ maxLen) :
    ∃ oid' cap' sp' w', (Builtin.append_ #[t, t] ty #[slV oid n cap, .slice (some p) m c]).run P w = .ok (slV oid' (n + m) cap') w' ∧ St B Ts w0 w' (L.set i (oid', (xs ++ news) ++ sp', e)) ∧ Gr sz oid' (n + m) cap' (xs ++ news) sp' ∧ oid' ≠ none := by
  obtain ⟨ht, I, z, hI, hz, hs1, hs2, hzs⟩ := elOf_spec he
  subst hs1
  subst hs2
  have hsmall : n + m ≤ 9223372036854775807 := by simpa [maxLen] using h63
  have hxl := hgr.len
  have hgrown : ∀ old, St B Ts w0 (w.drew.alloc (.cells (xs.toArray ++ news.toArray ++ Builtin.zeroCells z.cells (grownCap w (n + m) old e - (n + m))) e)) (L.set i (some w.heap.size, (xs ++ news) ++ (Builtin.zeroCells z.cells (grownCap w (n + m) old e - (n + m))).toList, e)) ∧
      Gr I.size (some w.heap.size) (n + m) (grownCap w (n + m) old e) (xs ++ news) (Builtin.zeroCells z.cells (grownCap w (n + m) old e - (n + m))).toList := by
    intro old
    have hge := grownCap_ge w (n + m) old e
    have hr := hst.replace hi ((xs ++ news) ++ (Builtin.zeroCells z.cells (grownCap w (n + m) old e - (n + m))).toList) e
    have ea : ((xs ++ news) ++ (Builtin.zeroCells z.cells (grownCap w (n + m) old e - (n + m))).toList).toArray = xs.toArray ++ news.toArray ++ Builtin.zeroCells z.cells (grownCap w (n + m) old e - (n + m)) := by
      apply Array.ext'
      simp
    rw [ea] at hr
    refine ⟨hr, ⟨by simp [hxl, hl, Nat.add_mul], ?_, hge, grownCap_le_maxLen w _ _ _ h63, fun h => by cases h⟩⟩
    simp only [List.length_append, hxl, hl, Array.length_toList, size_zeroCells, hzs, ← Nat.add_mul]
    congr 1
    omega
  cases oid with
  | none =>
    have hc := hgr.nil rfl
    have hn : n = 0 := by have := hgr.le; omega
    subst hc
    subst hn
    have hx : xs = [] := List.eq_nil_of_length_eq_zero (by simpa using hxl)
    subst hx
    have hr := run_append_nil (P := P) w t ty e I z ht hI hz p m c news hl hnews hm (by omega) (by have := hby; simp only [Nat.zero_add] at this; omega)
    have hg := hgrown 0
    simp only [Nat.zero_add, List.nil_append, Array.empty_append] at hg
    exact ⟨some w.heap.size, grownCap w m 0 e, _, _, by simpa [slV] using hr, by simpa using hg.1, by simpa using hg.2, by simp⟩
  | some g =>
    have hb := hst.heap (List.mem_of_getElem? hi)
    by_cases hroom : n + m ≤ cap
    · have hfit : n * I.size + news.length ≤ (xs ++ sp).toArray.size := by
        have h3 : (n + m) * I.size ≤ cap * I.size := Nat.mul_le_mul_right _ hroom
        have h4 := hgr.all
        rw [Nat.add_mul] at h3
        simp only [List.size_toArray, List.length_append, hl]
        omega
      have hr := run_append_room (P := P) w t ty e I ht hI g n cap _ hb p m c news hl hnews (by simpa using h1) hroom hfit
      have hset := hst.set hi ((xs ++ sp).take (n * I.size) ++ news ++ (xs ++ sp).drop (n * I.size + news.length))
      have e1 : (xs ++ sp).take (n * I.size) = xs := by rw [← hxl]; exact List.take_left
      have e2 : (xs ++ sp).drop (n * I.size + news.length) = sp.drop news.length := by rw [← hxl, ← List.drop_drop, List.drop_left]
      rw [e1, e2] at hset
      refine ⟨some g, cap, sp.drop news.length, _, by simpa [slV] using hr, ?_, ⟨by simp [hxl, hl, Nat.add_mul], ?_, hroom, hgr.max, fun h => by cases h⟩, by simp⟩
      · simpa [e1, e2] using hset
      · have h1 := hgr.all
        have h2 : n * I.size + m * I.size ≤ cap * I.size := by rw [← Nat.add_mul]; exact Nat.mul_le_mul_right _ hroom
        simp only [List.length_append, List.length_drop, hl]
        omega
    · have holds : ∀ j v, xs[j]? = some v → w.cell? ((⟨g, 0, none⟩ : Addr).add j) = some v := fun j v hv => by
        rw [add_lit]
        simp only [World.cell?, hb]
        have : j < xs.length := (List.getElem?_eq_some_iff.1 hv).1
        simp [List.getElem?_append_left this, hv]
      have hr := run_append_grow (P := P) w t ty e I z ht hI hz ⟨g, 0, none⟩ n cap xs hxl holds p m c news hl hnews (by omega) (by omega) (growslice_fits (by omega) hby)
      have hg := hgrown cap
      exact ⟨some w.heap.size, grownCap w (n + m) cap e, _, _, by simpa [slV] using hr, hg.1, hg.2, by simp⟩
variable {ops : Array Oper} {rest : List Oper} {Q : Exit → Act → World → Prop}
theorem ex_app {s x : Operand} {t : Nat} {v v' x' : Value} {w' : World} (ho : o.op = .call { callee := .builtin .append, args := #[s, x], argTypes := #[t, t] }) (hs : a.eval s = v) (hx : a.eval x = x')
    (hr : (Builtin.append_ #[t, t] o.type #[v, x']).run P w = .ok v' w') : (execOp a.eval o).run P w = .ok (.value v') w' := by
  simp [execOp, ho, resolve, invoke, builtin, hs, hx, hr]
theorem wl_app (hst : St B Ts w0 w L) {s x : Operand} {t e sz by_ i n cap : Nat} {oid : Option Nat} {xs sp : List Value} (hg : o.guard = none) (ho : o.op = .call { callee := .builtin .append, args := #[s, x], argTypes := #[t, t] })
    (hs : a.eval s = slV oid n cap) {p : Addr} {m c : Nat} (hx : a.eval x = .slice (some p) m c) (he : elOf P t e sz by_ = true) (hi : L[i]? = some (oid, xs ++ sp, e)) (hgr : Gr sz oid n cap xs sp) (hsz : 0 < sz)
    {news : List Value} (hm : 0 < m) (hl : news.length = m * sz) (hnews : ∀ j v, news[j]? = some v → w.cell? (p.add j) = some v) (h1 : (news.all Value.oneCell') = true)
    (hby : (n + m) * by_ ≤ 140737488355328) (h63 : n + m ≤ maxLen)
    (h : ∀ oid' cap' sp' w', St B Ts w0 w' (L.set i (oid', (xs ++ news) ++ sp', e)) → Gr sz oid' (n + m) cap' (xs ++ news) sp' → oid' ≠ none → wpList P ops Q rest (a.put o.dst (slV oid' (n + m) cap')) w') : WL P ops Q (o :: rest) a w := by
  obtain ⟨oid', cap', sp', w', hr, h2, h3, h4⟩ := run_app hst (ty := o.type) he hi hgr hsz hm hl hnews h1 hby h63
  exact wl_val hg (ex_app ho hs hx hr) (h oid' cap' sp' w' h2 h3 h4)
end
end Go.Proofs.YtpajcfkldnbpfaaGreatDoor
namespace Go.Proofs.YtpajcfkldnbpfaaGreatDoor
open Go.RowKit
section
variable {P : Program} {md : Region.Mode} {ops : Array Oper} {Q : Exit → Act → World → Prop} {S : World → Prop} {Qs : List Nat}
def ndd (md : Region.Mode) (ops : Array Oper) (Qs : List Nat) (j : Nat) : Bool :=
  match ops[j]? with
  | some o => !(Qs.all fun q => o.after.any fun e => Region.binds md e && e.on == q)
  | none => true
def wpN (P : Program) (md : Region.Mode) (ops : Array Oper) (Q : Exit → Act → World → Prop) (S : World → Prop) (Qs : List Nat) : Nat → Array Bool → Act → World → Prop
  | 0, listed, a, w => Region.ready md ops listed = [] ∧ Q .normal a w
  | fuel + 1, listed, a, w =>
    (Region.ready md ops listed = [] → Q .normal a w) ∧
    ∀ i ∈ Region.ready md ops listed, wpOp P ops Q i (fun a' w' => (ndd md ops Qs i = true → S w') ∧ wpN P md ops Q S Qs fuel (listed.setIfInBounds i true) a' w') a w
theorem wpAny_of_wpN : ∀ (fuel : Nat) (listed : Array Bool) (a : Act) (w : World), wpN P md ops Q S Qs fuel listed a w → wpAny P md ops Q fuel listed a w
  | 0, _, _, _, h => h
  | fuel + 1, _, _, _, h => ⟨h.1, fun i hi => wpOp_mono (fun a' w' h' => wpAny_of_wpN fuel _ a' w' h'.2) (h.2 i hi)⟩
theorem ndd_of_not {j i : Nat} {oj : Oper} (hj : ops[j]? = some oj) (hi : i ∈ Qs) (h : ∀ e ∈ oj.after, Region.binds md e = true → e.on ≠ i) : ndd md ops Qs j = true := by
  unfold ndd
  rw [hj]
  simp only [Bool.not_eq_true', List.all_eq_false]
  refine ⟨i, hi, ?_⟩
  intro hc
  obtain ⟨e, he, hb⟩ := Array.any_eq_true'.1 hc
  simp only [Bool.and_eq_true, beq_iff_eq] at hb
  exact h e he hb.1 hb.2
theorem wpN_first {i : Nat} {oi : Oper} {v : Value} (hi : ops[i]? = some oi) (hsel : ∀ (j : Nat) (o : Oper) cs b, ops[j]? = some o → o.op ≠ .select cs b)
    (hQ : ∀ c a w, Q (.panic c) (a.put oi.dst v) w → Q (.panic c) a w) (hiQ : i ∈ Qs) :
    ∀ (fuel : Nat) (listed : Array Bool) (a : Act) (w : World),
      (∀ j oj, ops[j]? = some oj → j ≠ i → listed.getD j true = false → (∀ e ∈ oj.after, Region.binds md e = true → e.on ≠ i) → oi.apart ops oj = true) →
      i ∈ Region.ready md ops listed → YieldsIf P ops S oi v a → S w →
      wpN P md ops Q S Qs fuel (listed.setIfInBounds i true) (a.put oi.dst v) w → wpN P md ops Q S Qs (fuel + 1) listed a w
  | 0, listed, a, w, _, hr, hy, hS, H => by
    refine ⟨fun h => absurd (h ▸ hr) List.not_mem_nil, fun j hj => ?_⟩
    by_cases e : j = i
    · subst e
      exact hy.wpOp hi hS ⟨fun _ => hS, H⟩
    · exact absurd (H.1 ▸ ready_mono hj e) List.not_mem_nil
  | fuel + 1, listed, a, w, hfree, hr, hy, hS, H => by
    refine ⟨fun h => absurd (h ▸ hr) List.not_mem_nil, fun j hj => ?_⟩
    by_cases e : j = i
    · subst e
      exact hy.wpOp hi hS ⟨fun _ => hS, H⟩
    obtain ⟨hun, oj, hoj, hall⟩ := mem_ready.1 hj
    have hno : ∀ e ∈ oj.after, Region.binds md e = true → e.on ≠ i := fun e he hb hei => by
      have h1 := hall e he hb
      have h0 := (mem_ready.1 hr).1
      rw [hei] at h1
      cases hl : listed[i]? with
      | none => simp [hl] at h1
      | some b => simp [hl] at h0 h1; rw [h0] at h1; cases h1
    refine wpOp_mono (fun a' w' h3 => ?_) (wpOp_putIf hoj (hfree j oj hoj e hun hno) (fun cs b => hsel i oi cs b hi) (fun cs b => hsel j oj cs b hoj) hQ hy (H.2 j (ready_mono hj e)))
    have hS' := h3.2.1 (ndd_of_not hoj hiQ hno)
    refine ⟨fun _ => hS', wpN_first hi hsel hQ hiQ fuel _ a' w' (fun k ok hk hki hku hkn => hfree k ok hk hki ?_ hkn) (ready_mono hr (Ne.symm e)) h3.1 hS' ?_⟩
    · by_cases hjk : j = k
      · subst hjk; exact hun
      · rwa [getD_set_ne true hjk] at hku
    · rw [Array.setIfInBounds_comm _ _ e]
      exact h3.2.2
inductive Plan where
  | fin
  | q (i : Nat) (p : Plan)
  | e (i : Nat) (k : Bool) (p : Plan)
  | e2 (i : Nat) (k : Bool) (p : Plan) (j : Nat) (l : Bool) (r : Plan)
def Plan.ok (md : Region.Mode) (ops : Array Oper) (Qs : List Nat) : Plan → Nat → Array Bool → Bool
  | .fin, _, listed => (Region.ready md ops listed).isEmpty
  | .q i p, n + 1, listed => Qs.contains i && (Region.ready md ops listed).contains i && Region.free md ops listed i && Plan.ok md ops Qs p n (listed.setIfInBounds i true)
  | .e i k p, n + 1, listed => Region.ready md ops listed == [i] && (k || !ndd md ops Qs i) && Plan.ok md ops Qs p n (listed.setIfInBounds i true)
  | .e2 i k p j l r, n + 1, listed => Region.ready md ops listed == [i, j] && (k || !ndd md ops Qs i) && (l || !ndd md ops Qs j) && Plan.ok md ops Qs p n (listed.setIfInBounds i true) && Plan.ok md ops Qs r n (listed.setIfInBounds j true)
  | _, 0, _ => false
def wpP (P : Program) (ops : Array Oper) (Q : Exit → Act → World → Prop) (S : World → Prop) : Plan → Act → World → Prop
  | .fin, a, w => Q .normal a w
  | .q i p, a, w => ∃ o v, ops[i]? = some o ∧ YieldsIf P ops S o v a ∧ wpP P ops Q S p (a.put o.dst v) w
  | .e i k p, a, w => wpOp P ops Q i (fun a' w' => (k = true → S w') ∧ wpP P ops Q S p a' w') a w
  | .e2 i k p j l r, a, w => wpOp P ops Q i (fun a' w' => (k = true → S w') ∧ wpP P ops Q S p a' w') a w ∧ wpOp P ops Q j (fun a' w' => (l = true → S w') ∧ wpP P ops Q S r a' w') a w
def Plan.qs : Plan → Bool
  | .fin => false
  | .q _ _ => true
  | .e _ _ p => p.qs
  | .e2 _ _ p _ _ r => p.qs || r.qs
def Plan.kept : Plan → Bool
  | .fin => true
  | .q _ p => p.kept
  | .e _ k p => (k || !p.qs) && p.kept
  | .e2 _ k p _ l r => (k || !p.qs) && (l || !r.qs) && p.kept && r.kept
theorem wpN_of_plan (hsel : Region.noSelect ops = true) (hQ : ∀ (d : Option Tmp) (v : Value) c a w, Q (.panic c) (a.put d v) w → Q (.panic c) a w) :
    ∀ (p : Plan) (n : Nat) (listed : Array Bool) (a : Act) (w : World), p.ok md ops Qs n listed = true → p.kept = true → (p.qs = true → S w) → wpP P ops Q S p a w → wpN P md ops Q S Qs n listed a w
  | .fin, n, listed, a, w, hok, _, _, h => by
    have hr : Region.ready md ops listed = [] := by cases n <;> simpa [Plan.ok] using hok
    cases n with
    | zero => exact ⟨hr, h⟩
    | succ n => exact ⟨fun _ => h, by rw [hr]; simp⟩
  | .q i p, 0, _, _, _, hok, _, _, _ => by simp [Plan.ok] at hok
  | .q i p, n + 1, listed, a, w, hok, hk, hS, h => by
    simp only [Plan.ok, Bool.and_eq_true] at hok
    obtain ⟨⟨⟨h1, h2⟩, h3⟩, h4⟩ := hok
    obtain ⟨o, v, ho, hy, hr⟩ := h
    have hS := hS rfl
    exact wpN_first ho (Region.noSelect_spec hsel) (hQ o.dst v) (by simpa using h1) n listed a w (Region.free_spec ho h3) (by simpa using h2) hy hS
      (wpN_of_plan hsel hQ p n _ _ w h4 (by simpa [Plan.kept] using hk) (fun _ => hS) hr)
  | .e i k p, 0, _, _, _, hok, _, _, _ => by simp [Plan.ok] at hok
  | .e i k p, n + 1, listed, a, w, hok, hk, _, h => by
    simp only [Plan.ok, Bool.and_eq_true, beq_iff_eq] at hok
    obtain ⟨⟨h1, h2⟩, h3⟩ := hok
    simp only [Plan.kept, Bool.and_eq_true] at hk
    refine ⟨(fun hr => by rw [h1] at hr; cases hr), fun j hj => ?_⟩
    rw [h1, List.mem_singleton] at hj
    subst hj
    refine wpOp_mono (fun a' w' h' => ⟨fun hn => h'.1 (by simpa [hn] using h2), wpN_of_plan hsel hQ p n _ a' w' h3 hk.2 (fun hq => h'.1 (by simpa [hq] using hk.1)) h'.2⟩) h
  | .e2 i k p j l r, 0, _, _, _, hok, _, _, _ => by simp [Plan.ok] at hok
  | .e2 i k p j l r, n + 1, listed, a, w, hok, hk, _, h => by
    simp only [Plan.ok, Bool.and_eq_true, beq_iff_eq] at hok
    obtain ⟨⟨⟨⟨h1, h2⟩, h3⟩, h4⟩, h5⟩ := hok
    simp only [Plan.kept, Bool.and_eq_true] at hk
    obtain ⟨⟨⟨k1, k2⟩, k3⟩, k4⟩ := hk
    refine ⟨(fun hr => by rw [h1] at hr; cases hr), fun m hm => ?_⟩
    rw [h1] at hm
    rcases List.mem_cons.1 hm with rfl | hm
    · exact wpOp_mono (fun a' w' h' => ⟨fun hn => h'.1 (by simpa [hn] using h2), wpN_of_plan hsel hQ p n _ a' w' h4 k3 (fun hq => h'.1 (by simpa [hq] using k1)) h'.2⟩) h.1
    · rw [List.mem_singleton] at hm
      subst hm
      exact wpOp_mono (fun a' w' h' => ⟨fun hn => h'.1 (by simpa [hn] using h3), wpN_of_plan hsel hQ r n _ a' w' h5 k4 (fun hq => h'.1 (by simpa [hq] using k2)) h'.2⟩) h.2
theorem wp_plan {id : Nat} {a : Act} {w : World} (S : World → Prop) (Qs : List Nat) (p : Plan) (hm : P.follows .mixedOrders = true) (hsel : Region.noSelect ops = true)
    (hok : p.ok .any ops Qs ops.size (Array.replicate ops.size false) = true) (hk : p.kept = true) (hQ : ∀ (d : Option Tmp) (v : Value) c a w, Q (.panic c) (a.put d v) w → Q (.panic c) a w)
    (hS : S w.drew) (h : wpP P ops Q S p a w.drew) : (Code.region id ops true).wp P Q a w :=
  wp_region_any hm (wpAny_of_wpN _ _ _ _ (wpN_of_plan hsel hQ p _ _ _ _ hok hk (fun _ => hS) h))
theorem p_q {i : Nat} {p : Plan} {a : Act} {w : World} {o : Oper} {v : Value} (ho : ops[i]? = some o) (hg : o.guard = none) (hy : ∀ w, S w → (execOp a.eval o).run P w = .ok (.value v) w) (h : wpP P ops Q S p (a.put o.dst v) w) : wpP P ops Q S (.q i p) a w :=
  ⟨o, v, ho, .inl ⟨by simp [Region.wanted, hg], hy⟩, h⟩
theorem wpOp_of_wp {i : Nat} {o : Oper} {a : Act} {w : World} {K : Act → World → Prop} (ho : ops[i]? = some o) (hg : o.guard = none) (h : o.wp P a w K Q) : wpOp P ops Q i K a w := by
  unfold wpOp
  rw [ho]
  simp only [Region.wanted, hg, if_true]
  exact .inl h
theorem p_val {i : Nat} {k : Bool} {p : Plan} {a : Act} {w w' : World} {o : Oper} {v : Value} (ho : ops[i]? = some o) (hg : o.guard = none) (hr : (execOp a.eval o).run P w = .ok (.value v) w') (hS : k = true → S w') (h : wpP P ops Q S p (a.put o.dst v) w') : wpP P ops Q S (.e i k p) a w :=
  wpOp_of_wp ho hg (by unfold Oper.wp; rw [hr]; exact ⟨hS, h⟩)
theorem p_skip {i : Nat} {k : Bool} {p : Plan} {a : Act} {w w' : World} {o : Oper} (ho : ops[i]? = some o) (hg : o.guard = none) (hr : (execOp a.eval o).run P w = .ok .skip w') (hS : k = true → S w') (h : wpP P ops Q S p (a.put o.dst undef) w') : wpP P ops Q S (.e i k p) a w :=
  wpOp_of_wp ho hg (by unfold Oper.wp; rw [hr]; exact ⟨hS, h⟩)
theorem p_call {i : Nat} {k : Bool} {p : Plan} {a : Act} {w w' : World} {o : Oper} {f : FuncId} {args : Array Value} {R : Ending → World → Prop} (ho : ops[i]? = some o) (hg : o.guard = none) (hr : (execOp a.eval o).run P w = .ok (.enter f args) w')
    (hc : Calls P f args w' R) (h : ∀ e w2, R e w2 → ∃ v, e = .returned v ∧ (k = true → S w2) ∧ wpP P ops Q S p (a.put o.dst v) w2) : wpP P ops Q S (.e i k p) a w :=
  wpOp_of_wp ho hg (by
    unfold Oper.wp
    rw [hr]
    refine hc.mono fun e w2 he => ?_
    obtain ⟨v, rfl, h1, h2⟩ := h e w2 he
    exact ⟨h1, h2⟩)
end
end Go.Proofs.YtpajcfkldnbpfaaGreatDoor
namespace Go.Proofs.YtpajcfkldnbpfaaGreatDoor
def oneB (t : Nat) : Bool := Nat.blt t 365 && Nat.beq ((71612429518922265481292082112661805921478513486045168059675374912992018073925477384305043176589334258163883646 >>> t) % 2) 1
theorem ones_all : ((List.range 365).all fun t => !oneB t || (oneOf Tryz.prog t && szOf Tryz.prog t 1)) = true := by kernel_rfl
theorem oneB_lt {t : Nat} (h : oneB t = true) : t < 365 := by
  unfold oneB at h
  simp only [Bool.and_eq_true] at h
  exact Nat.le_of_ble_eq_true h.1
theorem one_both {T : Nat} (h : oneB T = true) : oneOf Tryz.prog T = true ∧ szOf Tryz.prog T 1 = true := by
  have h1 := List.all_eq_true.1 ones_all T (List.mem_range.2 (oneB_lt h))
  rw [h] at h1
  simpa only [Bool.not_true, Bool.false_or, Bool.and_eq_true] using h1
theorem one_of {T : Nat} (h : oneB T = true) : oneOf Tryz.prog T = true := (one_both h).1
theorem sz1_of {T : Nat} (h : oneB T = true) : szOf Tryz.prog T 1 = true := (one_both h).2
theorem agg_sz {P : Program} {T n : Nat} (h : aggOf P T n = true) : szOf P T n = true := by
  unfold aggOf at h
  simp only [Bool.and_eq_true] at h
  exact h.2
def cellsOf : Nat → Nat
  | 24 => 6
  | 27 => 5
  | 31 => 19
  | 36 => 6
  | 47 => 13
  | 65 => 3
  | 70 => 2
  | 72 => 128
  | 83 => 1
  | 92 => 9
  | 104 => 4
  | 108 => 2
  | 111 => 3
  | 115 => 3
  | 119 => 4
  | 122 => 3
  | 124 => 2
  | 127 => 3
  | 132 => 3
  | 136 => 6
  | 144 => 7
  | 149 => 8
  | 152 => 4
  | 155 => 3
  | 161 => 4
  | 186 => 5
  | 210 => 2
  | 229 => 24
  | 235 => 3
  | 244 => 3
  | 257 => 3
  | 265 => 32
  | 272 => 800
  | 274 => 804
  | 277 => 20
  | 291 => 3
  | 306 => 1
  | 311 => 3
  | 338 => 2
  | 344 => 2
  | 349 => 4
  | _ => 0
theorem aggs_all : ((List.range 365).all fun t => Nat.beq (cellsOf t) 0 || aggOf Tryz.prog t (cellsOf t)) = true := by kernel_rfl
theorem cellsOf_lt {t : Nat} (h : cellsOf t ≠ 0) : t < 365 := by
  apply Classical.byContradiction
  intro hc
  apply h
  unfold cellsOf
  split <;> first | rfl | omega
theorem agg_of {T n m : Nat} (h : cellsOf T = m + 1) (h2 : n = m + 1) : aggOf Tryz.prog T n = true := by
  have h1 := List.all_eq_true.1 aggs_all T (List.mem_range.2 (cellsOf_lt (by omega)))
  rw [h] at h1
  subst h2
  have h3 : Nat.beq (m + 1) 0 = false := rfl
  rw [h3, Bool.false_or] at h1
  exact h1
theorem szn_of {T n m : Nat} (h : cellsOf T = m + 1) (h2 : n = m + 1) : szOf Tryz.prog T n = true := agg_sz (agg_of h h2)
theorem el22 : elOf Tryz.prog 22 24 6 88 = true := by kernel_rfl
theorem el28 : elOf Tryz.prog 28 9 1 16 = true := by kernel_rfl
theorem el29 : elOf Tryz.prog 29 31 19 248 = true := by kernel_rfl
theorem el48 : elOf Tryz.prog 48 47 13 160 = true := by kernel_rfl
theorem el52 : elOf Tryz.prog 52 55 1 16 = true := by kernel_rfl
theorem el134 : elOf Tryz.prog 134 137 1 8 = true := by kernel_rfl
theorem el146 : elOf Tryz.prog 146 93 1 8 = true := by kernel_rfl
theorem el213 : elOf Tryz.prog 213 5 1 1 = true := by kernel_rfl
theorem el205 : elOf Tryz.prog 205 87 1 8 = true := by kernel_rfl
theorem mixed : Tryz.prog.follows .mixedOrders = true := by kernel_rfl
end Go.Proofs.YtpajcfkldnbpfaaGreatDoor
