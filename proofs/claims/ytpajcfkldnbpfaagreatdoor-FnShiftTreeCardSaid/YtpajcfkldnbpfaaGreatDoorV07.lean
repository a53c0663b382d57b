/- Growing forests in memory. -/
import Derived.Test.YtpajcfkldnbpfaaGreatDoorV04
import Derived.Test.YtpajcfkldnbpfaaGreatDoorV05
set_option linter.unusedSimpArgs false
set_option linter.unusedVariables false
namespace Go.Proofs.YtpajcfkldnbpfaaGreatDoor
open Go.RowKit
theorem PairsOK.snoc2 {h h2 : TH} {k k2 : F TH} (hk : KeyOK h k) : ∀ {f : F TH}, PairsOK f → PairsOK ((f.snoc h k).snoc h2 k2)
  | .nil, _ => ⟨hk, trivial⟩
  | .cons _ _ .nil, h => h.elim
  | .cons _ _ (.cons _ _ r), ⟨h1, h3⟩ => ⟨h1, PairsOK.snoc2 hk (f := r) h3⟩
theorem F.all_snoc' {p : TH → F TH → Prop} {f : F TH} {h : TH} {k : F TH} (h1 : f.all p) (h2 : p h k) (h3 : k.all p) : (f.snoc h k).all p := (F.all_snoc f h k).2 ⟨h1, h2, h3⟩
theorem Sl.at2 {H : Type} {S : Shp H} {A : Nat → Nat → Prop} {w : World} {p : Option Addr} {f : F H} (h : Sl S A w p f) {i : Nat} {x : H} {k : F H} (hg : f.get i = some (x, k)) :
    ∃ b o q cap t, p = some ⟨b, o, none⟩ ∧ k.len ≤ cap ∧ Sl S A w q k ∧ A b t ∧ b < w.heap.size ∧ ∀ j v, (S.C x (.slice q k.len cap))[j]? = some v → w.cell? ⟨b, o + i * S.n + j, none⟩ = some v := by
  rcases h with h | ⟨b, o, cs, t, fr, hp, hb, hA, hR⟩
  · have := F.lt_of_get hg; omega
  · obtain ⟨q, cap, h1, h2, h3⟩ := hR.at hg
    refine ⟨b, o, q, cap, t, hp, h1, h2, hA, lt_of_heap hb, fun j v hv => ?_⟩
    have := h3 j v hv
    simp only [World.cell?, hb]
    rw [List.getElem?_drop] at this
    simpa [Nat.add_assoc] using this
def Kd (lo : Nat) (bs : List Nat) (oid : Option Nat) (b t : Nat) : Prop := lo ≤ b ∧ t = 24 ∧ b ∉ bs ∧ oid ≠ some b
theorem Kd.hold {B : Nat} {bl bs : List Nat} {w1 w : World} {L : Rws} {lo : Nat} {oid oid3 : Option Nat} {l3 : List Value} (h : St B ⟨[65, 9], bl⟩ w1 w L) (hm : (oid3, l3, 24) ∈ L) (hbl : ∀ b ∈ bl, b ∈ bs ∨ oid = some b) {lo' : Nat} (hlo : lo' ≤ lo) :
    Hold (Kd lo bs oid) (Kd lo' bs oid3) w1 w := by
  intro b cs t fr ha hb
  obtain ⟨h1, h2, h3, h4⟩ := ha
  have hnb : b ∉ bl := fun hc => by
    rcases hbl b hc with h5 | h5
    · exact h3 h5
    · exact h4 h5
  refine ⟨h.kp.typ b cs t fr hb (by rw [h2]; exact (by decide : 24 ∉ [65, 9])) hnb, by omega, h2, h3, fun e => ?_⟩
  subst e
  have hlt := lt_of_heap hb
  rcases (h.rows b l3 24 hm).2 with h5 | ⟨_, h5 | h5⟩
  · omega
  · revert h5; exact (by decide : 24 ∉ [65, 9])
  · exact hnb h5
theorem Kd.hold2 {B : Nat} {bl bs nb : List Nat} {w1 w : World} {L : Rws} {lo : Nat} {oid : Option Nat} (h : St B ⟨[65, 9], bl⟩ w1 w L) (hbl : ∀ b ∈ bl, b ∈ bs ∨ oid = some b) (hn : ∀ b ∈ nb, w1.heap.size ≤ b) :
    Hold (Kd lo bs oid) (Kd lo (nb ++ bs) oid) w1 w := by
  intro b cs t fr ha hb
  obtain ⟨h1, h2, h3, h4⟩ := ha
  have hnb : b ∉ bl := fun hc => by
    rcases hbl b hc with h5 | h5
    · exact h3 h5
    · exact h4 h5
  refine ⟨h.kp.typ b cs t fr hb (by rw [h2]; exact (by decide : 24 ∉ [65, 9])) hnb, h1, h2, fun hc => ?_, h4⟩
  rcases List.mem_append.1 hc with hc | hc
  · have := hn b hc
    have := lt_of_heap hb
    omega
  · exact h3 hc
theorem Kd.call {B : Nat} {bs : List Nat} {w1 w : World} {lo : Nat} {oid : Option Nat} (h : Kp B [65, 9] w1 w) : Hold (Kd lo bs oid) (Kd lo bs oid) w1 w := by
  intro b cs t fr ha hb
  exact ⟨h.typ b cs t fr hb (by rw [ha.2.1]; exact (by decide : 24 ∉ [65, 9])) (by exact List.not_mem_nil), ha⟩
theorem Kd.less {bs bs' : List Nat} {w : World} {lo : Nat} {oid : Option Nat} (h : ∀ b ∈ bs', b ∈ bs) : Hold (Kd lo bs oid) (Kd lo bs' oid) w w := by
  intro b cs t fr ha hb
  exact ⟨hb, ha.1, ha.2.1, fun hc => ha.2.2.1 (h b hc), ha.2.2.2⟩
theorem Kd.new {B : Nat} {Ts : Ch} {bs : List Nat} {w0 w1 w : World} {L : Rws} {oid : Option Nat} (h : St B Ts w0 w1 L) (hb : ∃ r, L.map (·.1) = bs.map some ++ oid :: r) : Hold (New w1.heap.size) (Kd w0.heap.size bs oid) w w := by
  intro b cs t fr ha hb'
  obtain ⟨r, hr⟩ := hb
  have hlt : ∀ c, some c ∈ bs.map some ++ oid :: r → c < w1.heap.size := fun c hc => by
    rw [← hr] at hc
    obtain ⟨⟨x, l, t⟩, hm, he⟩ := List.mem_map.1 hc
    simp only at he
    subst he
    exact lt_of_heap (h.heap hm)
  have h1 := ha.1
  have h2 := h.kp.size
  refine ⟨hb', by omega, ha.2, fun hc => ?_, fun e => ?_⟩
  · have := hlt b (List.mem_append_left _ (List.mem_map.2 ⟨b, hc, rfl⟩))
    omega
  · have := hlt b (List.mem_append_right _ (by simp [e]))
    omega
theorem in_bs {bs : List Nat} {oid : Option Nat} : ∀ b ∈ bs ++ oid.toList, b ∈ bs ∨ oid = some b := fun b h => by
  rcases List.mem_append.1 h with h | h
  · exact .inl h
  · exact .inr (by simpa using h)
theorem St.lo {B : Nat} {w0 w : World} {L : Rws} (h : St B [65, 9] w0 w L) {bs : List Nat} {oid : Option Nat} {l : List Value} (hm : (oid, l, 24) ∈ L) (hb : ∀ b ∈ bs, w0.heap.size ≤ b) : ∀ b ∈ bs ++ oid.toList, w0.heap.size ≤ b := by
  intro b h1
  rcases in_bs b h1 with h1 | h1
  · exact hb b h1
  · subst h1
    rcases (h.rows b l 24 hm).2 with h5 | ⟨_, h5 | h5⟩
    · exact h5
    · exact absurd h5 (by decide : ¬ 24 ∈ [65, 9])
    · cases h5
theorem Hold.trans {A A' A'' : Nat → Nat → Prop} {w w' w'' : World} (h : Hold A A' w w') (h2 : Hold A' A'' w' w'') : Hold A A'' w w'' := fun b cs t fr ha hb => by
  obtain ⟨h3, h4⟩ := h b cs t fr ha hb
  exact h2 b cs t fr h4 h3
theorem Hold.drew {A : Nat → Nat → Prop} {w : World} : Hold A A w w.drew := fun _ _ _ _ ha hb => ⟨hb, ha⟩
end Go.Proofs.YtpajcfkldnbpfaaGreatDoor
