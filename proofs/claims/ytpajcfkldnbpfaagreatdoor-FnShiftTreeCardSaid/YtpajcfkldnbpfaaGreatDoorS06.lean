/- AddColumn of the nodes with two kids. -/
import Derived.Test.YtpajcfkldnbpfaaGreatDoorS05
set_option linter.unusedSimpArgs false
set_option linter.unusedVariables false
namespace Go.Proofs.YtpajcfkldnbpfaaGreatDoor
open Go.RowKit
def AddW (d : Int) (x : NH) (kx : F NH) (c0 l r : Nat) (w w' : World) : Prop := Sh l r w w' ∧ AstN w' d l r (.cons x kx .nil) [c0]
set_option maxRecDepth 100000 in
set_option maxHeartbeats 4000000 in
theorem add_16 (h x y : NH) (kx ky : F NH) (b ba tk pb c0 c1 m1 mm mid : Nat) (d : Int) (w0 : World) (hb : Blk w0 b 152 [ptr ba, ptr tk, nodeV x c0, nodeV y c1]) (ht : TokAt w0 0 h tk pb) (h1 : 1 ≤ h.col) (h2 : h.col ≤ 200) (d0 : 0 ≤ d) (d1 : d ≤ 99) (hpb : pb < m1) (hx : AstN w0 0 m1 mm (.cons x kx .nil) [c0]) (hy : AstN w0 0 mm mid (.cons y ky .nil) [c1]) (hxk : NOK x kx) (hX : AddC x kx) (hyk : NOK y ky) (hY : AddC y ky) : Calls Tryz.prog 323 #[ptr b, .int .i64 d] w0 (Add1R d h tk pb m1 mid (.cons x kx (.cons y ky .nil)) [c0, c1] w0) := by
  (have HT := Lib.hid (And.intro ht (And.intro h1 (And.intro h2 (And.intro d0 (And.intro d1 (And.intro hpb (And.intro hx (And.intro hy hb)))))))); have HK := Lib.hid (And.intro hxk.kinds hX); have HY := Lib.hid (And.intro hyk.kinds hY); have c2 := hb.cell (off := 1) rfl; clear ht h1 h2 d0 d1 hpb hx hy hxk hX hyk hY hb; go_enter Tryz.func323, Tryz.ntmps323; go_upto_region 1 with fail; (refine (tokAdd_any h tk pb d _ HT.out.1 HT.out.2.1 HT.out.2.2.1 HT.out.2.2.2.1 HT.out.2.2.2.2.1).mono ?_; rintro e w1 ⟨rfl, hs1, ht1⟩; have H1 := Lib.hid (And.intro hs1 ht1); clear hs1 ht1); go_upto_region 1 with fail; clear c2; have hm := HT.out.2.2.2.2.2.1; have hl := HT.out.2.2.2.2.2.2.1.lohi; have hl2 := HT.out.2.2.2.2.2.2.2.1.lohi; have HM := Lib.hid (And.intro hm (And.intro hl hl2)); clear hm hl hl2)
  have c3 := (HT.out.2.2.2.2.2.2.2.2.sh H1.out.1 (by decide)).cell (off := 2) rfl
  unfold nodeV at c3
  go_upto_if 14 with fail
  go_cut [20] (fun _ wx => AddW d x kx c0 m1 mm w1 wx)
  case first =>
    have hC := HK.out.2 d c0 m1 mm w1 HT.out.2.2.2.1 HT.out.2.2.2.2.1 (HT.out.2.2.2.2.2.2.1.sh H1.out.1 (.inl HM.out.1))
    (rcases HK.out.1 with g | g | g | g | g | g | g | g | g | g | g | g | g | g)
    all_goals
      rw [g] at hC c3 ⊢
      have HC := Lib.hid hC
      clear hC g
      simp only [tyOf, addF] at c3 HC ⊢
      go_wp2_with fail
      refine HC.out.mono ?_
      rintro e w2 ⟨rfl, h3, h4⟩
      have HR := Lib.hid (And.intro h3 h4)
      clear h3 h4
      go_wp2_with fail
      go_meet
      case rel => exact HR.out
  case rest =>
  clear c3
  (have HW := Lib.hid hcut; clear hcut; have fin : ∀ e w2, AddR d y ky c1 mm mid wc e w2 → Add1R d h tk pb m1 mid (.cons x kx (.cons y ky .nil)) [c0, c1] w0 e w2 := (by (rintro e w2 ⟨rfl, h3, h4⟩; exact ⟨rfl, ((H1.out.1.mono (Nat.le_refl _) (by have := HM.out; omega)).trans (HW.out.1.mono (by have := HM.out; omega) (by have := HM.out; omega))).trans (h3.mono (by have := HM.out; omega) (Nat.le_refl _)), (H1.out.2.sh HW.out.1 (.inl HM.out.1)).sh h3 (.inl (by have := HM.out; omega)), AstN.two (HW.out.2.sh h3 (.inr (Nat.le_refl _))) h4 (Nat.le_refl _) (Nat.le_refl _) (Nat.le_refl _)⟩)); have HF := Lib.hid fin; clear fin; have c4 := (((HT.out.2.2.2.2.2.2.2.2).sh H1.out.1 (by decide)).sh HW.out.1 (by decide)).cell (off := 3) rfl; unfold nodeV at c4; have hC := HY.out.2 d c1 mm mid wc HT.out.2.2.2.1 HT.out.2.2.2.2.1 ((HT.out.2.2.2.2.2.2.2.1.sh H1.out.1 (.inl (by have := HM.out; omega))).sh HW.out.1 (.inl (Nat.le_refl _))); (rcases HY.out.1 with g | g | g | g | g | g | g | g | g | g | g | g | g | g); all_goals (rw [g] at hC c4; have HC := Lib.hid hC; clear hC g; simp only [tyOf, addF] at c4 HC; go_wp2_with fail; refine HC.out.mono ?_; rintro e w2 hr; obtain ⟨rfl, -⟩ := id hr; have HR := Lib.hid (HF.out _ _ hr); clear hr; go_wp2_with fail; exact ret_none rfl rfl HR.out))
set_option maxRecDepth 100000 in
set_option maxHeartbeats 4000000 in
theorem add_13 (h x y : NH) (kx ky : F NH) (b ba tk pb c0 c1 m1 mm mid : Nat) (d : Int) (w0 : World) (hb : Blk w0 b 144 [ptr ba, ptr tk, .pointer none, nodeV x c0, nodeV y c1, .pointer none, .bool h.flow]) (ht : TokAt w0 0 h tk pb) (h1 : 1 ≤ h.col) (h2 : h.col ≤ 200) (d0 : 0 ≤ d) (d1 : d ≤ 99) (hpb : pb < m1) (hx : AstN w0 0 m1 mm (.cons x kx .nil) [c0]) (hy : AstN w0 0 mm mid (.cons y ky .nil) [c1]) (hxk : NOK x kx) (hX : AddC x kx) (hyk : NOK y ky) (hY : AddC y ky) : Calls Tryz.prog 305 #[ptr b, .int .i64 d] w0 (Add1R d h tk pb m1 mid (.cons x kx (.cons y ky .nil)) [c0, c1] w0) := by
  (have HT := Lib.hid (And.intro ht (And.intro h1 (And.intro h2 (And.intro d0 (And.intro d1 (And.intro hpb (And.intro hx (And.intro hy hb)))))))); have HK := Lib.hid (And.intro hxk.kinds hX); have HY := Lib.hid (And.intro hyk.kinds hY); have c2 := hb.cell (off := 1) rfl; clear ht h1 h2 d0 d1 hpb hx hy hxk hX hyk hY hb; go_enter Tryz.func305, Tryz.ntmps305; go_upto_region 1 with fail; (refine (tokAdd_any h tk pb d _ HT.out.1 HT.out.2.1 HT.out.2.2.1 HT.out.2.2.2.1 HT.out.2.2.2.2.1).mono ?_; rintro e w1 ⟨rfl, hs1, ht1⟩; have H1 := Lib.hid (And.intro hs1 ht1); clear hs1 ht1); go_upto_region 1 with fail; clear c2; have hm := HT.out.2.2.2.2.2.1; have hl := HT.out.2.2.2.2.2.2.1.lohi; have hl2 := HT.out.2.2.2.2.2.2.2.1.lohi; have HM := Lib.hid (And.intro hm (And.intro hl hl2)); clear hm hl hl2)
  have c3 := (HT.out.2.2.2.2.2.2.2.2.sh H1.out.1 (by decide)).cell (off := 3) rfl
  unfold nodeV at c3
  go_upto_if 14 with fail
  go_cut [20] (fun _ wx => AddW d x kx c0 m1 mm w1 wx)
  case first =>
    have hC := HK.out.2 d c0 m1 mm w1 HT.out.2.2.2.1 HT.out.2.2.2.2.1 (HT.out.2.2.2.2.2.2.1.sh H1.out.1 (.inl HM.out.1))
    (rcases HK.out.1 with g | g | g | g | g | g | g | g | g | g | g | g | g | g)
    all_goals
      rw [g] at hC c3 ⊢
      have HC := Lib.hid hC
      clear hC g
      simp only [tyOf, addF] at c3 HC ⊢
      go_wp2_with fail
      refine HC.out.mono ?_
      rintro e w2 ⟨rfl, h3, h4⟩
      have HR := Lib.hid (And.intro h3 h4)
      clear h3 h4
      go_wp2_with fail
      go_meet
      case rel => exact HR.out
  case rest =>
  clear c3
  (have HW := Lib.hid hcut; clear hcut; have fin : ∀ e w2, AddR d y ky c1 mm mid wc e w2 → Add1R d h tk pb m1 mid (.cons x kx (.cons y ky .nil)) [c0, c1] w0 e w2 := (by (rintro e w2 ⟨rfl, h3, h4⟩; exact ⟨rfl, ((H1.out.1.mono (Nat.le_refl _) (by have := HM.out; omega)).trans (HW.out.1.mono (by have := HM.out; omega) (by have := HM.out; omega))).trans (h3.mono (by have := HM.out; omega) (Nat.le_refl _)), (H1.out.2.sh HW.out.1 (.inl HM.out.1)).sh h3 (.inl (by have := HM.out; omega)), AstN.two (HW.out.2.sh h3 (.inr (Nat.le_refl _))) h4 (Nat.le_refl _) (Nat.le_refl _) (Nat.le_refl _)⟩)); have HF := Lib.hid fin; clear fin; have c4 := (((HT.out.2.2.2.2.2.2.2.2).sh H1.out.1 (by decide)).sh HW.out.1 (by decide)).cell (off := 4) rfl; unfold nodeV at c4; have hC := HY.out.2 d c1 mm mid wc HT.out.2.2.2.1 HT.out.2.2.2.2.1 ((HT.out.2.2.2.2.2.2.2.1.sh H1.out.1 (.inl (by have := HM.out; omega))).sh HW.out.1 (.inl (Nat.le_refl _))); (rcases HY.out.1 with g | g | g | g | g | g | g | g | g | g | g | g | g | g); all_goals (rw [g] at hC c4; have HC := Lib.hid hC; clear hC g; simp only [tyOf, addF] at c4 HC; go_wp2_with fail; refine HC.out.mono ?_; rintro e w2 hr; obtain ⟨rfl, -⟩ := id hr; have HR := Lib.hid (HF.out _ _ hr); clear hr; go_wp2_with fail; exact ret_none rfl rfl HR.out))
end Go.Proofs.YtpajcfkldnbpfaaGreatDoor
