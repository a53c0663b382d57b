/- What a function hands back out of its result's block. How trees and nodes lie in memory: a forest over headers, each header's cells with a slice of kids behind them. The small functions of package spec: what they answer. -/
import Derived.Test.YtpajcfkldnbpfaaGreatDoorV01
set_option linter.unusedSimpArgs false
set_option linter.unusedVariables false
namespace Go.Proofs.YtpajcfkldnbpfaaGreatDoor
open Go.RowKit
section
variable {P : Program} {w : World} {B : Nat} {Ts : Ch} {w0 : World} {L : Rws} {a : Act} {fn : Func} {R : Ending → World → Prop}
theorem ret_cell (hst : St B Ts w0 w L) {p T b : Nat} {l : List Value} {t : Nat} (hf : fn.results = #[.cell p T]) (hp : a.tmps.getD p undef = .pointer (some ⟨b, 0, none⟩)) (hm : (some b, l, t) ∈ L) (hT : aggOf P T l.length = true)
    (hd : a.defers = []) (h : R (.returned (.agg l.toArray)) w) : bodyPost P fn R .ret a w := by
  refine bodyPost_ret (v := .agg l.toArray) ?_ hd h
  have hl : (loadVar T ⟨b, 0, none⟩).run P w = .ok (.agg l.toArray) w := run_load_cells hT fun j v hv => by simpa [World.cell?, hst.heap hm] using hv
  have hp' : a.tmps[p]?.getD undef = .pointer (some ⟨b, 0, none⟩) := by simpa using hp
  simp [results, hf, hp', asAddr, hl]
theorem ret_cells {p T b : Nat} {l : List Value} (hf : fn.results = #[.cell p T]) (hp : a.tmps.getD p undef = .pointer (some ⟨b, 0, none⟩)) (hT : aggOf P T l.length = true) (hc : ∀ j v, l[j]? = some v → w.cell? ⟨b, 0 + j, none⟩ = some v)
    (hd : a.defers = []) (h : R (.returned (.agg l.toArray)) w) : bodyPost P fn R .ret a w := by
  refine bodyPost_ret (v := .agg l.toArray) ?_ hd h
  have hl : (loadVar T ⟨b, 0, none⟩).run P w = .ok (.agg l.toArray) w := run_load_cells hT hc
  have hp' : a.tmps[p]?.getD undef = .pointer (some ⟨b, 0, none⟩) := by simpa using hp
  simp [results, hf, hp', asAddr, hl]
theorem ret_one (hst : St B Ts w0 w L) {p T b : Nat} {v : Value} {l : List Value} {t : Nat} (hf : fn.results = #[.cell p T]) (hp : a.tmps.getD p undef = .pointer (some ⟨b, 0, none⟩)) (hm : (some b, l, t) ∈ L) (hT : oneOf P T = true) (hv : l[0]? = some v)
    (hd : a.defers = []) (h : R (.returned v) w) : bodyPost P fn R .ret a w := by
  refine bodyPost_ret (v := v) ?_ hd h
  have hl : (loadVar T ⟨b, 0, none⟩).run P w = .ok v w := run_load_one hT (by simpa [World.cell?, hst.heap hm] using hv)
  have hp' : a.tmps[p]?.getD undef = .pointer (some ⟨b, 0, none⟩) := by simpa using hp
  simp [results, hf, hp', asAddr, hl]
theorem ret_tmp {p : Nat} {v : Value} (hf : fn.results = #[.tmp p]) (hp : a.tmps.getD p undef = v) (hd : a.defers = []) (h : R (.returned v) w) : bodyPost P fn R .ret a w := by
  refine bodyPost_ret (v := v) ?_ hd h
  have hp' : a.tmps[p]?.getD undef = v := by simpa using hp
  simp [results, hf, hp']
theorem ret_cell2 (hst : St B Ts w0 w L) {p T b p2 T2 b2 : Nat} {l l2 : List Value} {t t2 : Nat} (hf : fn.results = #[.cell p T, .cell p2 T2]) (hp : a.tmps.getD p undef = .pointer (some ⟨b, 0, none⟩)) (hm : (some b, l, t) ∈ L) (hT : aggOf P T l.length = true)
    (hp2 : a.tmps.getD p2 undef = .pointer (some ⟨b2, 0, none⟩)) (hm2 : (some b2, l2, t2) ∈ L) (hT2 : aggOf P T2 l2.length = true)
    (hd : a.defers = []) (h : R (.returned (.tuple #[.agg l.toArray, .agg l2.toArray])) w) : bodyPost P fn R .ret a w := by
  refine bodyPost_ret (v := .tuple #[.agg l.toArray, .agg l2.toArray]) ?_ hd h
  have hl : (loadVar T ⟨b, 0, none⟩).run P w = .ok (.agg l.toArray) w := run_load_cells hT fun j v hv => by simpa [World.cell?, hst.heap hm] using hv
  have hl2 : (loadVar T2 ⟨b2, 0, none⟩).run P w = .ok (.agg l2.toArray) w := run_load_cells hT2 fun j v hv => by simpa [World.cell?, hst.heap hm2] using hv
  have hp' : a.tmps[p]?.getD undef = .pointer (some ⟨b, 0, none⟩) := by simpa using hp
  have hp2' : a.tmps[p2]?.getD undef = .pointer (some ⟨b2, 0, none⟩) := by simpa using hp2
  simp [results, hf, hp', hp2', asAddr, hl, hl2]
inductive Upd : Rws → Nat → List Value → Nat → List Value → Rws → Prop
  | head {b l t l' L} : Upd ((some b, l, t) :: L) b l t l' ((some b, l', t) :: L)
  | tail {x L b l t l' L'} : Upd L b l t l' L' → Upd (x :: L) b l t l' (x :: L')
theorem Upd.spec {L L' : Rws} {b t : Nat} {l l' : List Value} (h : Upd L b l t l' L') : ∃ i, L[i]? = some (some b, l, t) ∧ L' = L.set i (some b, l', t) := by
  induction h with
  | head => exact ⟨0, rfl, rfl⟩
  | tail _ ih =>
    obtain ⟨i, h1, h2⟩ := ih
    exact ⟨i + 1, by simpa using h1, by simp [h2]⟩
inductive Rep : List Value → Nat → Value → List Value → Prop
  | here {x l v} : Rep (x :: l) 0 v (v :: l)
  | there {x l n v l'} : Rep l n v l' → Rep (x :: l) (n + 1) v (x :: l')
theorem Rep.spec {l l' : List Value} {n : Nat} {v : Value} (h : Rep l n v l') : n < l.length ∧ l' = l.set n v := by
  induction h with
  | here => simp
  | there _ ih => exact ⟨by simp [ih.1], by simp [ih.2]⟩
inductive UpdOne : Rws → Nat → Nat → Value → Rws → Prop
  | head {b l t off v l' L} : Rep l off v l' → UpdOne ((some b, l, t) :: L) b off v ((some b, l', t) :: L)
  | tail {x L b off v L'} : UpdOne L b off v L' → UpdOne (x :: L) b off v (x :: L')
theorem UpdOne.spec {L L' : Rws} {b off : Nat} {v : Value} (h : UpdOne L b off v L') : ∃ i l t, L[i]? = some (some b, l, t) ∧ off < l.length ∧ L' = L.set i (some b, l.set off v, t) := by
  induction h with
  | head hr =>
    obtain ⟨h1, rfl⟩ := hr.spec
    exact ⟨0, _, _, rfl, h1, rfl⟩
  | tail _ ih =>
    obtain ⟨i, l, t, h1, h2, h3⟩ := ih
    exact ⟨i + 1, l, t, by simpa using h1, h2, by simp [h3]⟩
inductive Pre : List Value → List Value → Prop
  | nil {l} : Pre l []
  | cons {x l vs} : Pre l vs → Pre (x :: l) (x :: vs)
theorem Pre.spec {l vs : List Value} (h : Pre l vs) : vs = l.take vs.length ∧ vs.length ≤ l.length := by
  induction h with
  | nil => simp
  | cons _ ih => exact ⟨by simp [← ih.1], by simp [ih.2]⟩
inductive Sub : List Value → Nat → List Value → Prop
  | here {l vs} : Pre l vs → Sub l 0 vs
  | there {x l n vs} : Sub l n vs → Sub (x :: l) (n + 1) vs
theorem Sub.spec {l vs : List Value} {n : Nat} (h : Sub l n vs) : vs = (l.drop n).take vs.length ∧ n + vs.length ≤ l.length := by
  induction h with
  | here h => exact ⟨by simpa using h.spec.1, by simpa using h.spec.2⟩
  | there _ ih => exact ⟨by simpa using ih.1, by have := ih.2; simp only [List.length_cons]; omega⟩
theorem wl_one {ops : Array Oper} {rest : List Oper} {Q : Exit → Act → World → Prop} {o : Oper} (hst : St B Ts w0 w L) {T : Nat} {x y : Operand} {b off : Nat} {v : Value} {L' : Rws} (hg : o.guard = none) (ho : o.op = .store T x y) (hx : a.eval x = .pointer (some ⟨b, off, none⟩)) (hy : a.eval y = v)
    (hu : UpdOne L b off v L') (hs : szOf P T 1 = true) (h1 : v.oneCell' = true) (h : ∀ w', St B Ts w0 w' L' → wpList P ops Q rest (a.put o.dst undef) w') : WL P ops Q (o :: rest) a w := by
  obtain ⟨i, l, t, hi, hl, rfl⟩ := hu.spec
  exact wl_st hg (st_one hst ho hx hy hi hs hl h1) h
theorem wl_whole {ops : Array Oper} {rest : List Oper} {Q : Exit → Act → World → Prop} {o : Oper} (hst : St B Ts w0 w L) {T : Nat} {x y : Operand} {b : Nat} {l vs : List Value} {t : Nat} {L' : Rws} (hg : o.guard = none) (ho : o.op = .store T x y) (hx : a.eval x = .pointer (some ⟨b, 0, none⟩)) (hy : a.eval y = .agg vs.toArray)
    (hu : Upd L b l t vs L') (hs : szOf P T vs.length = true) (hl : l.length = vs.length) (h1 : (vs.all Value.oneCell') = true) (h : ∀ w', St B Ts w0 w' L' → wpList P ops Q rest (a.put o.dst undef) w') : WL P ops Q (o :: rest) a w := by
  obtain ⟨i, hi, rfl⟩ := hu.spec
  exact wl_st hg (st_whole hst ho hx hy hi hs hl h1) h
theorem ld_sub {o : Oper} (hst : St B Ts w0 w L) {T : Nat} {x : Operand} {b off : Nat} {l vs : List Value} {t : Nat} (ho : o.op = .load T x) (hx : a.eval x = .pointer (some ⟨b, off, none⟩)) (hm : (some b, l, t) ∈ L) (hs : Sub l off vs) (hT : aggOf P T vs.length = true) :
    (execOp a.eval o).run P w = .ok (.value (.agg vs.toArray)) w := by
  have h := ld_part hst ho hx hm hT hs.spec.2
  rw [← hs.spec.1] at h
  exact h
theorem wl_ld1 {ops : Array Oper} {rest : List Oper} {Q : Exit → Act → World → Prop} {o : Oper} (hst : St B Ts w0 w L) {T : Nat} {x : Operand} {b off : Nat} {l : List Value} {t : Nat} {v : Value} (hg : o.guard = none) (ho : o.op = .load T x) (hx : a.eval x = .pointer (some ⟨b, off, none⟩)) (hm : (some b, l, t) ∈ L) (hT : oneOf P T = true) (hv : l[off]? = some v)
    (h : wpList P ops Q rest (a.put o.dst v) w) : WL P ops Q (o :: rest) a w := wl_val hg (ld_one hst ho hx hm hT hv) h
theorem wl_ldw {ops : Array Oper} {rest : List Oper} {Q : Exit → Act → World → Prop} {o : Oper} (hst : St B Ts w0 w L) {T : Nat} {x : Operand} {b : Nat} {l : List Value} {t : Nat} (hg : o.guard = none) (ho : o.op = .load T x) (hx : a.eval x = .pointer (some ⟨b, 0, none⟩)) (hm : (some b, l, t) ∈ L) (hT : aggOf P T l.length = true)
    (h : wpList P ops Q rest (a.put o.dst (.agg l.toArray)) w) : WL P ops Q (o :: rest) a w := wl_val hg (ld_whole hst ho hx hm hT) h
theorem wl_lds {ops : Array Oper} {rest : List Oper} {Q : Exit → Act → World → Prop} {o : Oper} (hst : St B Ts w0 w L) {T : Nat} {x : Operand} {b off : Nat} {l vs : List Value} {t : Nat} (hg : o.guard = none) (ho : o.op = .load T x) (hx : a.eval x = .pointer (some ⟨b, off, none⟩)) (hm : (some b, l, t) ∈ L) (hs : Sub l off vs) (hT : aggOf P T vs.length = true)
    (h : wpList P ops Q rest (a.put o.dst (.agg vs.toArray)) w) : WL P ops Q (o :: rest) a w := wl_val hg (ld_sub hst ho hx hm hs hT) h
theorem wl_ldc {ops : Array Oper} {rest : List Oper} {Q : Exit → Act → World → Prop} {o : Oper} {T : Nat} {x : Operand} {b off : Nat} {vs : List Value} (hg : o.guard = none) (ho : o.op = .load T x) (hx : a.eval x = .pointer (some ⟨b, off, none⟩)) (hc : ∀ j v, vs[j]? = some v → w.cell? ⟨b, off + j, none⟩ = some v) (hT : aggOf P T vs.length = true)
    (h : wpList P ops Q rest (a.put o.dst (.agg vs.toArray)) w) : WL P ops Q (o :: rest) a w := wl_val hg (ld_cells ho hx hT hc) h
theorem wl_ldc1 {ops : Array Oper} {rest : List Oper} {Q : Exit → Act → World → Prop} {o : Oper} {T : Nat} {x : Operand} {p : Addr} {v : Value} (hg : o.guard = none) (ho : o.op = .load T x) (hx : a.eval x = .pointer (some p)) (hc : w.cell? p = some v) (hT : oneOf P T = true)
    (h : wpList P ops Q rest (a.put o.dst v) w) : WL P ops Q (o :: rest) a w := wl_val hg (ld_cell ho hx hT hc) h
def isNew : Op → Bool
  | .alloc _ | .box _ _ => true
  | _ => false
def isNewS : Op → Bool
  | .buildSlice _ _ _ => true
  | _ => false
theorem wl_newp {ops : Array Oper} {rest : List Oper} {Q : Exit → Act → World → Prop} {o : Oper} (hst : St B Ts w0 w L) (_hi : isNew o.op = true) {l : List Value} {t : Nat} (hg : o.guard = none) (hr : (execOp a.eval o).run P w = .ok (.value (.pointer (some ⟨w.heap.size, 0, none⟩))) (w.alloc (.cells l.toArray t)))
    (h : ∀ b w', w0.heap.size ≤ b → St B Ts w0 w' ((some b, l, t) :: L) → wpList P ops Q rest (a.put o.dst (.pointer (some ⟨b, 0, none⟩))) w') : WL P ops Q (o :: rest) a w := wl_new hst hg hr h
theorem wl_news {ops : Array Oper} {rest : List Oper} {Q : Exit → Act → World → Prop} {o : Oper} (hst : St B Ts w0 w L) (_hi : isNewS o.op = true) {l : List Value} {t n c : Nat} (hg : o.guard = none) (hr : (execOp a.eval o).run P w = .ok (.value (.slice (some ⟨w.heap.size, 0, none⟩) n c)) (w.alloc (.cells l.toArray t)))
    (h : ∀ b w', w0.heap.size ≤ b → St B Ts w0 w' ((some b, l, t) :: L) → wpList P ops Q rest (a.put o.dst (.slice (some ⟨b, 0, none⟩) n c)) w') : WL P ops Q (o :: rest) a w := wl_newS hst hg hr h
section
variable {ops : Array Oper} {rest : List Oper} {Q : Exit → Act → World → Prop} {o : Oper}
theorem X1 (hst : St B Ts w0 w L) {T : Nat} {x : Operand} {b off : Nat} {l : List Value} {t : Nat} {v : Value} (h : wpList P ops Q rest (a.put o.dst v) w)
    (hg : o.guard = none := by exact rfl) (ho : o.op = .load T x := by exact rfl) (hx : a.eval x = .pointer (some ⟨b, off, none⟩) := by exact rfl) (hm : (some b, l, t) ∈ L := by (repeat' (first | exact List.Mem.head _ | apply List.Mem.tail)); done) (hT : oneOf P T = true := by exact one_of (by decide +kernel)) (hv : l[off]? = some v := by exact rfl) :
    WL P ops Q (o :: rest) a w := wl_ld1 hst hg ho hx hm hT hv h
theorem XW (hst : St B Ts w0 w L) {T : Nat} {x : Operand} {b : Nat} {l : List Value} {t : Nat} (h : wpList P ops Q rest (a.put o.dst (.agg l.toArray)) w)
    (hg : o.guard = none := by exact rfl) (ho : o.op = .load T x := by exact rfl) (hx : a.eval x = .pointer (some ⟨b, 0, none⟩) := by exact rfl) (hm : (some b, l, t) ∈ L := by (repeat' (first | exact List.Mem.head _ | apply List.Mem.tail)); done) (hT : aggOf P T l.length = true := by exact agg_of rfl rfl) :
    WL P ops Q (o :: rest) a w := wl_ldw hst hg ho hx hm hT h
theorem Y1 (hst : St B Ts w0 w L) {T : Nat} {x y : Operand} {b off : Nat} {v : Value} {L' : Rws} (h : ∀ w', St B Ts w0 w' L' → wpList P ops Q rest (a.put o.dst undef) w')
    (hg : o.guard = none := by exact rfl) (ho : o.op = .store T x y := by exact rfl) (hx : a.eval x = .pointer (some ⟨b, off, none⟩) := by exact rfl) (hy : a.eval y = v := by first | exact (rfl : _ = Value.int _ _) | exact (rfl : _ = Value.string _) | exact (rfl : _ = Value.bool _) | exact (rfl : _ = Value.pointer _) | exact (rfl : _ = Value.slice _ _ _) | exact (rfl : _ = Value.iface _ _) | exact (rfl : _ = Value.nilIface) | exact (rfl : _ = Value.float _ _)) (hu : UpdOne L b off v L' := by (repeat' (first | exact Rep.here | apply Rep.there | apply UpdOne.head | apply UpdOne.tail)); done) (hs : szOf P T 1 = true := by exact sz1_of (by decide +kernel)) (h1 : v.oneCell' = true := by exact rfl) :
    WL P ops Q (o :: rest) a w := wl_one hst hg ho hx hy hu hs h1 h
theorem YW (hst : St B Ts w0 w L) {T : Nat} {x y : Operand} {b : Nat} {l vs : List Value} {t : Nat} {L' : Rws} (h : ∀ w', St B Ts w0 w' L' → wpList P ops Q rest (a.put o.dst undef) w')
    (hg : o.guard = none := by exact rfl) (ho : o.op = .store T x y := by exact rfl) (hx : a.eval x = .pointer (some ⟨b, 0, none⟩) := by exact rfl) (hy : a.eval y = .agg vs.toArray := by exact rfl) (hu : Upd L b l t vs L' := by (repeat' (first | exact Upd.head | apply Upd.tail)); done) (hs : szOf P T vs.length = true := by exact szn_of rfl rfl) (hl : l.length = vs.length := by exact rfl) (h1 : (vs.all Value.oneCell') = true := by exact rfl) :
    WL P ops Q (o :: rest) a w := wl_whole hst hg ho hx hy hu hs hl h1 h
theorem ZP (hst : St B Ts w0 w L) {l : List Value} {t : Nat} (h : ∀ b w', w0.heap.size ≤ b → St B Ts w0 w' ((some b, l, t) :: L) → wpList P ops Q rest (a.put o.dst (.pointer (some ⟨b, 0, none⟩))) w')
    (hi : isNew o.op = true := by exact rfl) (hg : o.guard = none := by exact rfl) (hr : (execOp a.eval o).run P w = .ok (.value (.pointer (some ⟨w.heap.size, 0, none⟩))) (w.alloc (.cells l.toArray t)) := by go_simp; rfl) :
    WL P ops Q (o :: rest) a w := wl_newp hst hi hg hr h
theorem ZS (hst : St B Ts w0 w L) {l : List Value} {t n c : Nat} (h : ∀ b w', w0.heap.size ≤ b → St B Ts w0 w' ((some b, l, t) :: L) → wpList P ops Q rest (a.put o.dst (.slice (some ⟨b, 0, none⟩) n c)) w')
    (hi : isNewS o.op = true := by exact rfl) (hg : o.guard = none := by exact rfl) (hr : (execOp a.eval o).run P w = .ok (.value (.slice (some ⟨w.heap.size, 0, none⟩) n c)) (w.alloc (.cells l.toArray t)) := by go_simp; first | rfl | exact ⟨⟨rfl, rfl⟩, rfl⟩) :
    WL P ops Q (o :: rest) a w := wl_news hst hi hg hr h
end
theorem wp_cut {c : Code} {Q : Exit → Act → World → Prop} (R : Act → World → Prop) (h : c.wp P (fun e a w => e = .normal ∧ R a w) a w) (h2 : ∀ a w, R a w → Q .normal a w) : c.wp P Q a w :=
  wp_mono h (by rintro e a w ⟨rfl, h⟩; exact h2 a w h)
end
end Go.Proofs.YtpajcfkldnbpfaaGreatDoor
namespace Go.Proofs.YtpajcfkldnbpfaaGreatDoor
open Go.RowKit
inductive F (H : Type) where
  | nil
  | cons (h : H) (kids rest : F H)
namespace F
variable {H : Type}
def len : F H → Nat
  | nil => 0
  | cons _ _ r => r.len + 1
def size : F H → Nat
  | nil => 0
  | cons _ k r => k.size + r.size + 1
def snoc : F H → H → F H → F H
  | nil, h, k => cons h k nil
  | cons h' k' r, h, k => cons h' k' (r.snoc h k)
def get : F H → Nat → Option (H × F H)
  | nil, _ => none
  | cons h k _, 0 => some (h, k)
  | cons _ _ r, i + 1 => r.get i
def flat : F H → List H
  | nil => []
  | cons h k r => h :: (k.flat ++ r.flat)
def all (p : H → F H → Prop) : F H → Prop
  | nil => True
  | cons h k r => p h k ∧ k.all p ∧ r.all p
def take : F H → Nat → F H
  | _, 0 => nil
  | nil, _ => nil
  | cons h k r, i + 1 => cons h k (r.take i)
theorem len_snoc (f : F H) (h : H) (k : F H) : (f.snoc h k).len = f.len + 1 := by
  induction f with
  | nil => rfl
  | cons h' k' r _ ih => simp [snoc, len, ih]
theorem size_snoc (f : F H) (h : H) (k : F H) : (f.snoc h k).size = f.size + k.size + 1 := by
  induction f with
  | nil => simp [snoc, size]
  | cons h' k' r _ ih => simp only [snoc, size, ih]; omega
theorem flat_snoc (f : F H) (h : H) (k : F H) : (f.snoc h k).flat = f.flat ++ h :: k.flat := by
  induction f with
  | nil => simp [snoc, flat]
  | cons h' k' r _ ih => simp [snoc, flat, ih]
theorem all_snoc {p : H → F H → Prop} (f : F H) (h : H) (k : F H) : (f.snoc h k).all p ↔ f.all p ∧ p h k ∧ k.all p := by
  induction f with
  | nil => simp [snoc, all]
  | cons h' k' r _ ih =>
    simp only [snoc, all, ih]
    constructor
    · rintro ⟨a, b, c, d, e⟩; exact ⟨⟨a, b, c⟩, d, e⟩
    · rintro ⟨⟨a, b, c⟩, d, e⟩; exact ⟨a, b, c, d, e⟩
theorem flat_length (f : F H) : f.flat.length = f.size := by
  induction f with
  | nil => rfl
  | cons h k r ihk ihr => simp only [flat, size, List.length_cons, List.length_append, ihk, ihr]
theorem get_lt {f : F H} {i : Nat} (h : i < f.len) : ∃ x k, f.get i = some (x, k) := by
  induction f generalizing i with
  | nil => simp [len] at h
  | cons h' k' r _ ih =>
    cases i with
    | zero => exact ⟨h', k', rfl⟩
    | succ i => exact ih (by simp [len] at h; omega)
theorem lt_of_get {f : F H} {i : Nat} {x : H} {k : F H} (h : f.get i = some (x, k)) : i < f.len := by
  induction f generalizing i with
  | nil => simp [get] at h
  | cons h' k' r _ ih =>
    cases i with
    | zero => simp [len]
    | succ i => have := ih h; simp [len]; omega
theorem size_get {f : F H} {i : Nat} {x : H} {k : F H} (h : f.get i = some (x, k)) : k.size < f.size := by
  induction f generalizing i with
  | nil => simp [get] at h
  | cons h' k' r _ ih =>
    cases i with
    | zero => simp [get] at h; simp [size, h.2]; omega
    | succ i => have := ih h; simp [size]; omega
theorem all_get {p : H → F H → Prop} {f : F H} (ha : f.all p) {i : Nat} {x : H} {k : F H} (h : f.get i = some (x, k)) : p x k ∧ k.all p := by
  induction f generalizing i with
  | nil => simp [get] at h
  | cons h' k' r _ ih =>
    obtain ⟨h1, h2, h3⟩ := ha
    cases i with
    | zero => simp [get] at h; obtain ⟨rfl, rfl⟩ := h; exact ⟨h1, h2⟩
    | succ i => exact ih h3 h
theorem take_succ {f : F H} {i : Nat} {x : H} {k : F H} (h : f.get i = some (x, k)) : f.take (i + 1) = (f.take i).snoc x k := by
  induction f generalizing i with
  | nil => simp [get] at h
  | cons h' k' r _ ih =>
    cases i with
    | zero => simp [get] at h; obtain ⟨rfl, rfl⟩ := h; simp [take, snoc]
    | succ i => simp only [take, snoc]; rw [ih h]
theorem take_len (f : F H) : f.take f.len = f := by
  induction f with
  | nil => rfl
  | cons h k r _ ih => simp [take, len, ih]
theorem len_take {f : F H} {i : Nat} (h : i ≤ f.len) : (f.take i).len = i := by
  induction f generalizing i with
  | nil => simp [len] at h; subst h; rfl
  | cons h' k' r _ ih =>
    cases i with
    | zero => rfl
    | succ i => simp only [take, len]; rw [ih (by simp [len] at h; omega)]
theorem len_le_size (f : F H) : f.len ≤ f.size := by
  induction f with
  | nil => simp [len]
  | cons h k r _ ih => simp only [len, size]; omega
end F
structure Shp (H : Type) where
  C : H → Value → List Value
  n : Nat
  E : Nat
  len : ∀ h v, (C h v).length = n
  pos : 0 < n
section
variable {H : Type} (S : Shp H) (A : Nat → Nat → Prop)
def Row (w : World) : List Value → F H → Prop
  | _, .nil => True
  | l, .cons h kids rest => ∃ p cap l', l = S.C h (.slice p kids.len cap) ++ l' ∧ kids.len ≤ cap ∧
      (kids.len = 0 ∨ ∃ b o cs t fr, p = some ⟨b, o, none⟩ ∧ w.heap[b]? = some (.cells cs t fr) ∧ A b t ∧ Row w (cs.toList.drop o) kids) ∧ Row w l' rest
def Sl (w : World) (p : Option Addr) (f : F H) : Prop := f.len = 0 ∨ ∃ b o cs t fr, p = some ⟨b, o, none⟩ ∧ w.heap[b]? = some (.cells cs t fr) ∧ A b t ∧ Row S A w (cs.toList.drop o) f
variable {S A}
def Hold (A A' : Nat → Nat → Prop) (w w' : World) : Prop := ∀ b cs t fr, A b t → w.heap[b]? = some (.cells cs t fr) → w'.heap[b]? = some (.cells cs t fr) ∧ A' b t
theorem Row.hold {A' : Nat → Nat → Prop} {w w' : World} (hk : Hold A A' w w') : ∀ {f : F H} {l : List Value}, Row S A w l f → Row S A' w' l f := by
  intro f
  induction f with
  | nil => intro l _; trivial
  | cons h k r ihk ihr =>
    rintro l ⟨p, cap, l', e, hc, hs, hr⟩
    refine ⟨p, cap, l', e, hc, ?_, ihr hr⟩
    rcases hs with hs | ⟨b, o, cs, t, fr, hp, hb, ht, hR⟩
    · exact .inl hs
    · obtain ⟨h1, h2⟩ := hk b cs t fr ht hb
      exact .inr ⟨b, o, cs, t, fr, hp, h1, h2, ihk hR⟩
theorem Sl.hold {A' : Nat → Nat → Prop} {w w' : World} {p : Option Addr} {f : F H} (hk : Hold A A' w w') (h : Sl S A w p f) : Sl S A' w' p f := by
  rcases h with h | ⟨b, o, cs, t, fr, hp, hb, ht, hR⟩
  · exact .inl h
  · obtain ⟨h1, h2⟩ := hk b cs t fr ht hb
    exact .inr ⟨b, o, cs, t, fr, hp, h1, h2, hR.hold hk⟩
theorem Hold.kp {B : Nat} {Ts : Ch} {A A' : Nat → Nat → Prop} {w w' : World} (hk : Kp B Ts w w') (hA : ∀ b t, A b t → (b < B ∨ (t ∉ Ts.ts ∧ b ∉ Ts.bs)) ∧ A' b t) : Hold A A' w w' := fun b cs t fr ha hb => by
  obtain ⟨h1, h2⟩ := hA b t ha
  refine ⟨?_, h2⟩
  rcases h1 with h1 | h1
  · rw [hk.low b h1]; exact hb
  · exact hk.typ b cs t fr hb h1.1 h1.2
theorem Hold.below {A A' : Nat → Nat → Prop} {w w' : World} (hk : Below w.heap.size w w') (hA : ∀ b t, A b t → A' b t) : Hold A A' w w' := fun b cs t fr ha hb => ⟨(hk.block b (lt_of_heap hb)).trans hb, hA b t ha⟩
theorem Row.cons_iff {w : World} {l : List Value} {h : H} {k r : F H} : Row S A w l (.cons h k r) ↔ ∃ p cap l', l = S.C h (.slice p k.len cap) ++ l' ∧ k.len ≤ cap ∧ Sl S A w p k ∧ Row S A w l' r := Iff.rfl
theorem Row.more {w : World} : ∀ {f : F H} {l : List Value} (m : List Value), Row S A w l f → Row S A w (l ++ m) f := by
  intro f
  induction f with
  | nil => intro l m _; trivial
  | cons h k r _ ihr =>
    rintro l m ⟨p, cap, l', rfl, hc, hs, hr⟩
    exact ⟨p, cap, l' ++ m, by simp, hc, hs, ihr m hr⟩
theorem Row.snoc {w : World} : ∀ {f : F H} {xs sp : List Value}, Row S A w (xs ++ sp) f → xs.length = f.len * S.n → ∀ {h : H} {k : F H} {p : Option Addr} {cap : Nat} (sp' : List Value), k.len ≤ cap → Sl S A w p k →
    Row S A w ((xs ++ S.C h (.slice p k.len cap)) ++ sp') (f.snoc h k) := by
  intro f
  induction f with
  | nil =>
    intro xs sp _ hl h k p cap sp' hc hs
    have : xs = [] := List.eq_nil_of_length_eq_zero (by simpa [F.len] using hl)
    subst this
    exact ⟨p, cap, sp', by simp, hc, hs, trivial⟩
  | cons h' k' r _ ihr =>
    rintro xs sp ⟨p', cap', l', e, hc', hs', hr⟩ hl h k p cap sp' hc hs
    have hn := S.len h' (.slice p' k'.len cap')
    have hl2 : S.n ≤ xs.length := by rw [hl, F.len, Nat.add_mul]; omega
    obtain ⟨xs', rfl⟩ : ∃ xs', xs = S.C h' (.slice p' k'.len cap') ++ xs' := by
      refine ⟨xs.drop S.n, ?_⟩
      have h1 : (xs ++ sp).take S.n = S.C h' (.slice p' k'.len cap') := by rw [e, ← hn, List.take_left]
      rw [List.take_append_of_le_length hl2] at h1
      rw [← h1, List.take_append_drop]
    have e' : xs' ++ sp = l' := by
      rw [List.append_assoc] at e
      exact List.append_cancel_left e
    subst e'
    have hl3 : xs'.length = r.len * S.n := by
      simp only [List.length_append, hn, F.len, Nat.add_mul] at hl
      omega
    exact ⟨p', cap', (xs' ++ S.C h (.slice p k.len cap)) ++ sp', by simp, hc', hs', ihr hr hl3 sp' hc hs⟩
theorem Row.at {w : World} : ∀ {f : F H} {l : List Value} {i : Nat} {h : H} {k : F H}, Row S A w l f → f.get i = some (h, k) → ∃ p cap, k.len ≤ cap ∧ Sl S A w p k ∧ ∀ j v, (S.C h (.slice p k.len cap))[j]? = some v → l[i * S.n + j]? = some v := by
  intro f
  induction f with
  | nil => intro l i h k _ hg; simp [F.get] at hg
  | cons h' k' r _ ihr =>
    rintro l i h k ⟨p, cap, l', rfl, hc, hs, hr⟩ hg
    cases i with
    | zero =>
      simp only [F.get, Option.some.injEq, Prod.mk.injEq] at hg
      obtain ⟨rfl, rfl⟩ := hg
      refine ⟨p, cap, hc, hs, fun j v hv => ?_⟩
      have : j < (S.C h' (.slice p k'.len cap)).length := (List.getElem?_eq_some_iff.1 hv).1
      simp only [Nat.zero_mul, Nat.zero_add]
      rw [List.getElem?_append_left this]
      exact hv
    | succ i =>
      obtain ⟨p2, cap2, h1, h2, h3⟩ := ihr hr hg
      refine ⟨p2, cap2, h1, h2, fun j v hv => ?_⟩
      have := h3 j v hv
      rw [List.getElem?_append_right (by rw [S.len, Nat.succ_mul]; omega), S.len]
      rw [show (i + 1) * S.n + j - S.n = i * S.n + j by rw [Nat.succ_mul]; omega]
      exact this
theorem Sl.at {w : World} {p : Option Addr} {f : F H} (h : Sl S A w p f) {i : Nat} {x : H} {k : F H} (hg : f.get i = some (x, k)) :
    ∃ b o q cap, p = some ⟨b, o, none⟩ ∧ k.len ≤ cap ∧ Sl S A w q k ∧ ∀ j v, (S.C x (.slice q k.len cap))[j]? = some v → w.cell? ⟨b, o + i * S.n + j, none⟩ = some v := by
  rcases h with h | ⟨b, o, cs, t, fr, hp, hb, _, hR⟩
  · have := F.lt_of_get hg; omega
  · obtain ⟨q, cap, h1, h2, h3⟩ := hR.at hg
    refine ⟨b, o, q, cap, hp, h1, h2, fun j v hv => ?_⟩
    have := h3 j v hv
    simp only [World.cell?, hb]
    rw [List.getElem?_drop] at this
    simpa [Nat.add_assoc] using this
end
end Go.Proofs.YtpajcfkldnbpfaaGreatDoor
namespace Go.Proofs.YtpajcfkldnbpfaaGreatDoor
open Go.RowKit
theorem mod_again (x n : Int) (hn : 0 < n) : (x.tmod n + n) % n = x % n := by
  rw [Int.add_emod_right]
  have h3 := Int.tmod_add_mul_tdiv x n
  have h4 : x.tmod n = x - n * x.tdiv n := by omega
  rw [h4, Int.sub_mul_emod_self_left]
theorem modulo_any (x n : Int) (w : World) (hn : 0 < n) (hn2 : n ≤ 100) : Calls Tryz.prog 42 #[.int .i64 x, .int .i64 n] w fun e w' => e = .returned (.int .i64 (x % n)) ∧ w = w' := by
  have h1 := Int.tmod_lt_of_pos x hn
  have h2 := Int.lt_tmod_of_pos x hn
  have hz : (n == 0) = false := by simp; omega
  go_enter Tryz.func42, Tryz.ntmps42
  go_wp2
  go_ret
  refine ⟨?_, rfl⟩
  simp [mod_again x n hn]
theorem has_any (w : World) (fb : Nat) (left k : Int) (an : Value) (hb : w.heap[fb]? = some (.cells #[.int .i64 63, .int .i64 left, an] 65 (0, 0))) (hk : k = 1 ∨ k = 2 ∨ k = 4 ∨ k = 8 ∨ k = 16 ∨ k = 32) :
    Calls Tryz.prog 43 #[.pointer (some ⟨fb, 0, none⟩), .int .i64 k] w fun e w' => e = .returned (.bool true) ∧ w = w' := by
  have hc : w.cell? ⟨fb, 0, none⟩ = some (.int .i64 63) := by simp [World.cell?, hb]
  clear hb
  rcases hk with rfl | rfl | rfl | rfl | rfl | rfl
  all_goals
    go_enter Tryz.func43, Tryz.ntmps43
    go_wp2
    go_ret
    exact ⟨rfl, rfl⟩
def hollowB (kind style : Int) (v : ByteArray) : Bool := decide (kind = 1) && decide (style = 1) && decide (v.size = 0)
theorem empty_iff (v : ByteArray) : v.toList.isEmpty = decide (v.size = 0) := by
  rw [ByteArray.toList_eq]
  cases v with
  | mk d =>
    cases d with
    | mk l => cases l <;> simp only [ByteArray.size, List.isEmpty, List.size_toArray, List.length_nil, List.length_cons] <;> rfl
theorem hollow_any (k st : Int) (v an tg : ByteArray) (p : Option Addr) (len cap : Nat) (w : World) :
    Calls Tryz.prog 48 #[.agg #[.int .i64 k, .string v, .string an, .string tg, .int .i64 st, .slice p len cap]] w fun e w' => e = .returned (.bool (hollowB k st v)) ∧ Below w.heap.size w w' := by
  by_cases h1 : k = 1
  · subst h1
    by_cases h2 : st = 1
    · subst h2
      go_enter Tryz.func48, Tryz.ntmps48
      go_wp2
      go_ret
      refine ⟨?_, (Below.refl _ _).alloc (Nat.le_refl _) _⟩
      simp only [hollowB, ← empty_iff]
      simp
    · have h2' : ((st : Int) == 1) = false := by simpa using h2
      go_enter Tryz.func48, Tryz.ntmps48
      go_wp2
      go_ret
      refine ⟨?_, (Below.refl _ _).alloc (Nat.le_refl _) _⟩
      simp [hollowB, h2]
  · have h1' : ((k : Int) == 1) = false := by simpa using h1
    go_enter Tryz.func48, Tryz.ntmps48
    go_wp2
    go_ret
    refine ⟨?_, (Below.refl _ _).alloc (Nat.le_refl _) _⟩
    simp [hollowB, h1]
def letB (c : Int) : Bool := decide (97 ≤ c ∧ c ≤ 122) || decide (65 ≤ c ∧ c ≤ 90)
def digB (c : Int) : Bool := decide (48 ≤ c) && decide (c ≤ 57)
theorem wrLetter_any (c : Int) (w : World) : Calls Tryz.prog 110 #[.int .u8 c] w fun e w' => e = .returned (.bool (letB c)) ∧ w = w' := by
  by_cases h1 : 97 ≤ c
  · by_cases h2 : c ≤ 122
    · go_enter Tryz.func110, Tryz.ntmps110
      go_wp2
      go_ret
      refine ⟨?_, rfl⟩
      simp [letB, h1, h2]
    · have h3 : 65 ≤ c := by omega
      have h4 : ¬ c ≤ 90 := by omega
      go_enter Tryz.func110, Tryz.ntmps110
      go_wp2
      go_ret
      refine ⟨?_, rfl⟩
      simp [letB]
      omega
  · by_cases h2 : 65 ≤ c
    · go_enter Tryz.func110, Tryz.ntmps110
      go_wp2
      go_ret
      refine ⟨?_, rfl⟩
      simp [letB, h1, h2]
      omega
    · go_enter Tryz.func110, Tryz.ntmps110
      go_wp2
      go_ret
      refine ⟨?_, rfl⟩
      simp [letB, h1, h2]
      omega
theorem wrDigit_any (c : Int) (w : World) : Calls Tryz.prog 111 #[.int .u8 c] w fun e w' => e = .returned (.bool (digB c)) ∧ w = w' := by
  by_cases h1 : 48 ≤ c
  all_goals
    go_enter Tryz.func111, Tryz.ntmps111
    go_wp2
    go_ret
    refine ⟨?_, rfl⟩
    simp [digB, h1]
    try omega
def alB (c : Int) : Bool := letB c || digB c
theorem wrAlnum_any (c : Int) (w : World) : Calls Tryz.prog 83 #[.int .u8 c] w fun e w' => e = .returned (.bool (alB c)) ∧ w = w' := by
  cases h : letB c
  all_goals
    go_enter Tryz.func83, Tryz.ntmps83
    go_wp2_with (first | (go_at_call 110; refine (wrLetter_any _ _).mono ?_; rintro e w' ⟨rfl, rfl⟩) | (go_at_call 111; refine (wrDigit_any _ _).mono ?_; rintro e w' ⟨rfl, rfl⟩))
    go_ret
    exact ⟨by simp [alB, h], rfl⟩
end Go.Proofs.YtpajcfkldnbpfaaGreatDoor
