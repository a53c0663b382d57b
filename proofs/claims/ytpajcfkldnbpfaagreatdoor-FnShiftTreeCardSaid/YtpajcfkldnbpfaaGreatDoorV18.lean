/- Walk, at nodes of one or two kids. Walk, at lists and mappings. Visited. -/
import Derived.Test.YtpajcfkldnbpfaaGreatDoorV17
set_option linter.unusedSimpArgs false
set_option linter.unusedVariables false
namespace Go.Proofs.YtpajcfkldnbpfaaGreatDoor
open Go.RowKit
theorem SeenL.cons {w : World} {c : Int} {h : NH} {hs : List NH} {v : Value} {vs : List Value} (h1 : SeenAt w c h v) (h2 : SeenL w c hs vs) : SeenL w c (h :: hs) (v :: vs) := ⟨v, vs, rfl, h1, h2⟩
theorem VS.cast {wb : World} {vb n n' : Nat} {xs xs' : List Value} {w0 w : World} (h : VS wb vb n xs w0 w) (e : n = n') (e2 : xs = xs') : VS wb vb n' xs' w0 w := by subst e; subst e2; exact h
set_option maxRecDepth 100000 in
set_option maxHeartbeats 2000000 in
theorem walk_one (wb : World) (h : NH) (k : F NH) (b lo hi : Nat) (hk : h.kind = 10 ∨ h.kind = 17 ∨ h.kind = 19) (ha : AstN wb 0 lo hi (.cons h k .nil) [b]) (hok : NOK h k) (hall : k.all NOK) (hkids : ∀ i x kk c l1 h1, k.get i = some (x, kk) → AstN wb 0 l1 h1 (.cons x kk .nil) [c] → WalkC wb x kk c) : WalkC wb h k b := by
  (intro vb n xs w0 hW hvs hn; have HS : SeenAt wb 0 h (nodeV h b) := ⟨k, b, lo, hi, rfl, hok, hall, by have := F.len_le_size k; omega, ha⟩)
  obtain ⟨b', bs', ba, tk, pb, m1, mid, kb, e, -, -, htok, hba, hnode, hast, -⟩ := ha
  cases e
  obtain ⟨kd, ty, va, te, fl, co, of⟩ := h
  simp only at hk
  obtain ⟨a, ka, rfl⟩ : ∃ a ka, k = .cons a ka .nil := by
    rcases hk with rfl | rfl | rfl
    · rcases hok.2.2.2 with ⟨_, h, _⟩ | ⟨_, _, a, rfl, _⟩ | ⟨h, _⟩ | ⟨h, _⟩ | ⟨h, _⟩ | ⟨h, _⟩ | ⟨h, _⟩ | ⟨h, _⟩
      · unfold LeafN at h; simp at h
      · exact ⟨_, _, rfl⟩
      all_goals exact absurd h (by simp)
    · rcases hok.2.2.2 with ⟨_, h, _⟩ | ⟨h, _⟩ | ⟨h, _⟩ | ⟨h, _⟩ | ⟨h, _⟩ | ⟨h, _⟩ | ⟨_, _, a, rfl, _⟩ | ⟨h, _⟩
      · unfold LeafN at h; simp at h
      all_goals first | exact ⟨_, _, rfl⟩ | exact absurd h (by simp)
    · rcases hok.2.2.2 with ⟨_, h, _⟩ | ⟨h, _⟩ | ⟨h, _⟩ | ⟨h, _⟩ | ⟨h, _⟩ | ⟨h, _⟩ | ⟨h, _⟩ | ⟨_, _, _, a, ka, rfl⟩
      · unfold LeafN at h; simp at h
      all_goals first | exact ⟨_, _, rfl⟩ | exact absurd h (by simp)
  obtain ⟨c0, bs0, mid0, rfl, h1, rfl, -⟩ := AstN.head hast
  have hw1 := hkids 0 a ka c0 _ _ rfl h1
  simp only [F.size] at hn
  rcases hk with rfl | rfl | rfl
  · obtain ⟨hk8, hblk⟩ : a.kind = 8 ∧ Blk wb b 132 [ptr ba, ptr tk, ptr c0] := by
      rcases hok.2.2.2 with ⟨_, h, _⟩ | ⟨_, _, a', e, h8, _⟩ | ⟨h, _⟩ | ⟨h, _⟩ | ⟨h, _⟩ | ⟨h, _⟩ | ⟨h, _⟩ | ⟨h, _⟩
      · unfold LeafN at h; simp at h
      · cases e
        refine ⟨h8, ?_⟩
        rcases hnode with ⟨g, _⟩ | ⟨g, _⟩ | ⟨g, _⟩ | ⟨g, _⟩ | ⟨g, _⟩ | ⟨g, _⟩ | ⟨g, _⟩ | ⟨g, k0, e, h⟩ | ⟨g, _⟩ | ⟨g, _⟩ | ⟨g, _⟩ | ⟨g, _⟩ | ⟨g, _⟩ | ⟨g, _⟩
        all_goals first | (cases e; exact h) | exact absurd g (by simp)
      all_goals exact absurd h (by simp)
    have HB := Lib.hid (And.intro hblk (And.intro hba (And.intro HS hw1)))
    clear hok hnode htok hblk hba HS hw1 hkids h1 hast hall
    unfold nodeV at *
    simp only [tyOf]
    obtain ⟨kd, ty1, va1, te1, fl1, co1, of1⟩ := a
    simp only at hk8
    subst hk8
    ((have ta162 := fun v xT w => ta_miss (t := 130) 162 (by decide) (by decide) v xT w; have ta106 := fun v xT w => ta_miss (t := 130) 106 (by decide) (by decide) v xT w; have ta113 := fun v xT w => ta_miss (t := 130) 113 (by decide) (by decide) v xT w; have ta117 := fun v xT w => ta_miss (t := 130) 117 (by decide) (by decide) v xT w; have ta125 := fun v xT w => ta_miss (t := 130) 125 (by decide) (by decide) v xT w; have ta128 := fun v xT w => ta_miss (t := 130) 128 (by decide) (by decide) v xT w; have ta109 := fun v xT w => ta_miss (t := 130) 109 (by decide) (by decide) v xT w; have ta120 := fun v xT w => ta_miss (t := 130) 120 (by decide) (by decide) v xT w; have ta123 := fun v xT w => ta_miss (t := 130) 123 (by decide) (by decide) v xT w; have ta130 := fun v xT w => ta_hit 130 (by decide) v xT w); go_enter Tryz.func30, Tryz.ntmps30; go_wp2_with fail; refine (visit_vs wb vb n _ _ xs _ hvs (by omega)).mono ?_; rintro e w1 ⟨rfl, hvs1⟩)
    have hc0 := (HB.out.1.below (hW.trans hvs1.below)).cell (off := 0) rfl
    have hc2 := (HB.out.1.below (hW.trans hvs1.below)).cell (off := 2) rfl
    go_wp2_with fail
    (refine (walkComment_any _ ba _ (HB.out.2.1.below (hW.trans hvs1.below))).mono ?_; rintro e w2 ⟨rfl, rfl⟩)
    go_wp2_with fail
    refine (HB.out.2.2.2 vb (n + 1) _ _ (hW.trans hvs1.below) hvs1.here (by omega)).mono ?_
    rintro e w3 ⟨ys, hys, rfl, hvs2⟩
    go_wp2_with fail
    refine ret_none rfl rfl ⟨_ :: ys, SeenL.cons HB.out.2.2.1 (by simpa [F.flat] using hys), rfl, ?_⟩
    exact (hvs1.chain hvs2).cast (by simp [F.flat, F.flat_length]; omega) (by simp [tyOf])
  · obtain ⟨hblk⟩ : Nonempty (Blk wb b 155 [ptr ba, ptr tk, nodeV a c0]) := by
      rcases hnode with ⟨g, _⟩ | ⟨g, _⟩ | ⟨g, _⟩ | ⟨g, _⟩ | ⟨g, _⟩ | ⟨g, _⟩ | ⟨g, _⟩ | ⟨g, _⟩ | ⟨g, _⟩ | ⟨g, _⟩ | ⟨g, _⟩ | ⟨g, _⟩ | ⟨g, v0, e, h⟩ | ⟨g, _⟩
      all_goals first | (cases e; exact ⟨h⟩) | exact absurd g (by simp)
    have HB := Lib.hid (And.intro hblk (And.intro hba (And.intro HS hw1)))
    clear hok hnode htok hblk hba HS hw1 hkids h1 hast hall
    unfold nodeV at *
    simp only [tyOf]
    ((have ta162 := fun v xT w => ta_miss (t := 154) 162 (by decide) (by decide) v xT w; have ta106 := fun v xT w => ta_miss (t := 154) 106 (by decide) (by decide) v xT w; have ta113 := fun v xT w => ta_miss (t := 154) 113 (by decide) (by decide) v xT w; have ta117 := fun v xT w => ta_miss (t := 154) 117 (by decide) (by decide) v xT w; have ta125 := fun v xT w => ta_miss (t := 154) 125 (by decide) (by decide) v xT w; have ta128 := fun v xT w => ta_miss (t := 154) 128 (by decide) (by decide) v xT w; have ta109 := fun v xT w => ta_miss (t := 154) 109 (by decide) (by decide) v xT w; have ta120 := fun v xT w => ta_miss (t := 154) 120 (by decide) (by decide) v xT w; have ta123 := fun v xT w => ta_miss (t := 154) 123 (by decide) (by decide) v xT w; have ta130 := fun v xT w => ta_miss (t := 154) 130 (by decide) (by decide) v xT w; have ta156 := fun v xT w => ta_miss (t := 154) 156 (by decide) (by decide) v xT w; have ta159 := fun v xT w => ta_miss (t := 154) 159 (by decide) (by decide) v xT w; have ta101 := fun v xT w => ta_miss (t := 154) 101 (by decide) (by decide) v xT w; have ta133 := fun v xT w => ta_miss (t := 154) 133 (by decide) (by decide) v xT w; have ta138 := fun v xT w => ta_miss (t := 154) 138 (by decide) (by decide) v xT w; have ta137 := fun v xT w => ta_miss (t := 154) 137 (by decide) (by decide) v xT w; have ta145 := fun v xT w => ta_miss (t := 154) 145 (by decide) (by decide) v xT w; have ta150 := fun v xT w => ta_miss (t := 154) 150 (by decide) (by decide) v xT w; have ta154 := fun v xT w => ta_hit 154 (by decide) v xT w); go_enter Tryz.func30, Tryz.ntmps30; go_wp2_with fail; refine (visit_vs wb vb n _ _ xs _ hvs (by omega)).mono ?_; rintro e w1 ⟨rfl, hvs1⟩)
    have hc0 := (HB.out.1.below (hW.trans hvs1.below)).cell (off := 0) rfl
    have hc2 := (HB.out.1.below (hW.trans hvs1.below)).cell (off := 2) rfl
    go_wp2_with fail
    (refine (walkComment_any _ ba _ (HB.out.2.1.below (hW.trans hvs1.below))).mono ?_; rintro e w2 ⟨rfl, rfl⟩)
    go_wp2_with fail
    refine (HB.out.2.2.2 vb (n + 1) _ _ (hW.trans hvs1.below) hvs1.here (by omega)).mono ?_
    rintro e w3 ⟨ys, hys, rfl, hvs2⟩
    go_wp2_with fail
    refine ret_none rfl rfl ⟨_ :: ys, SeenL.cons HB.out.2.2.1 (by simpa [F.flat] using hys), rfl, ?_⟩
    exact (hvs1.chain hvs2).cast (by simp [F.flat, F.flat_length]; omega) (by simp [tyOf])
  · obtain ⟨hblk⟩ : Nonempty (Blk wb b 161 [ptr ba, .pointer none, ptr tk, nodeV a c0]) := by
      rcases hnode with ⟨g, _⟩ | ⟨g, _⟩ | ⟨g, _⟩ | ⟨g, _⟩ | ⟨g, _⟩ | ⟨g, _⟩ | ⟨g, _⟩ | ⟨g, _⟩ | ⟨g, _⟩ | ⟨g, _⟩ | ⟨g, _⟩ | ⟨g, _⟩ | ⟨g, _⟩ | ⟨g, v0, e, h⟩
      all_goals first | (cases e; exact ⟨h⟩) | exact absurd g (by simp)
    have HB := Lib.hid (And.intro hblk (And.intro hba (And.intro HS hw1)))
    clear hok hnode htok hblk hba HS hw1 hkids h1 hast hall
    unfold nodeV at *
    simp only [tyOf]
    ((have ta162 := fun v xT w => ta_miss (t := 159) 162 (by decide) (by decide) v xT w; have ta106 := fun v xT w => ta_miss (t := 159) 106 (by decide) (by decide) v xT w; have ta113 := fun v xT w => ta_miss (t := 159) 113 (by decide) (by decide) v xT w; have ta117 := fun v xT w => ta_miss (t := 159) 117 (by decide) (by decide) v xT w; have ta125 := fun v xT w => ta_miss (t := 159) 125 (by decide) (by decide) v xT w; have ta128 := fun v xT w => ta_miss (t := 159) 128 (by decide) (by decide) v xT w; have ta109 := fun v xT w => ta_miss (t := 159) 109 (by decide) (by decide) v xT w; have ta120 := fun v xT w => ta_miss (t := 159) 120 (by decide) (by decide) v xT w; have ta123 := fun v xT w => ta_miss (t := 159) 123 (by decide) (by decide) v xT w; have ta130 := fun v xT w => ta_miss (t := 159) 130 (by decide) (by decide) v xT w; have ta156 := fun v xT w => ta_miss (t := 159) 156 (by decide) (by decide) v xT w; have ta159 := fun v xT w => ta_hit 159 (by decide) v xT w); go_enter Tryz.func30, Tryz.ntmps30; go_wp2_with fail; refine (visit_vs wb vb n _ _ xs _ hvs (by omega)).mono ?_; rintro e w1 ⟨rfl, hvs1⟩)
    have hc0 := (HB.out.1.below (hW.trans hvs1.below)).cell (off := 0) rfl
    have hc3 := (HB.out.1.below (hW.trans hvs1.below)).cell (off := 3) rfl
    go_wp2_with fail
    (refine (walkComment_any _ ba _ (HB.out.2.1.below (hW.trans hvs1.below))).mono ?_; rintro e w2 ⟨rfl, rfl⟩)
    go_wp2_with fail
    refine (HB.out.2.2.2 vb (n + 1) _ _ (hW.trans hvs1.below) hvs1.here (by omega)).mono ?_
    rintro e w3 ⟨ys, hys, rfl, hvs2⟩
    go_wp2_with fail
    refine ret_none rfl rfl ⟨_ :: ys, SeenL.cons HB.out.2.2.1 (by simpa [F.flat] using hys), rfl, ?_⟩
    exact (hvs1.chain hvs2).cast (by simp [F.flat, F.flat_length]; omega) (by simp [tyOf])
set_option maxRecDepth 100000 in
set_option maxHeartbeats 2000000 in
theorem walk_two (wb : World) (h : NH) (k : F NH) (b lo hi : Nat) (hk : h.kind = 13 ∨ h.kind = 16) (ha : AstN wb 0 lo hi (.cons h k .nil) [b]) (hok : NOK h k) (hall : k.all NOK) (hkids : ∀ i x kk c l1 h1, k.get i = some (x, kk) → AstN wb 0 l1 h1 (.cons x kk .nil) [c] → WalkC wb x kk c) : WalkC wb h k b := by
  (intro vb n xs w0 hW hvs hn; have HS : SeenAt wb 0 h (nodeV h b) := ⟨k, b, lo, hi, rfl, hok, hall, by have := F.len_le_size k; omega, ha⟩)
  obtain ⟨b', bs', ba, tk, pb, m1, mid, kb, e, -, -, htok, hba, hnode, hast, -⟩ := ha
  cases e
  obtain ⟨kd, ty, va, te, fl, co, of⟩ := h
  simp only at hk
  obtain ⟨a, ka, a2, ka2, rfl⟩ : ∃ a ka a2 ka2, k = .cons a ka (.cons a2 ka2 .nil) := by
    rcases hk with rfl | rfl
    · rcases hok.2.2.2 with ⟨_, h, _⟩ | ⟨h, _⟩ | ⟨h, _⟩ | ⟨_, _, a, b, kb, rfl, _⟩ | ⟨h, _⟩ | ⟨h, _⟩ | ⟨h, _⟩ | ⟨h, _⟩
      · unfold LeafN at h; simp at h
      all_goals first | exact ⟨_, _, _, _, rfl⟩ | exact absurd h (by simp)
    · rcases hok.2.2.2 with ⟨_, h, _⟩ | ⟨h, _⟩ | ⟨h, _⟩ | ⟨h, _⟩ | ⟨h, _⟩ | ⟨_, _, a, b, kb, rfl, _⟩ | ⟨h, _⟩ | ⟨h, _⟩
      · unfold LeafN at h; simp at h
      all_goals first | exact ⟨_, _, _, _, rfl⟩ | exact absurd h (by simp)
  obtain ⟨c0, bs0, mid0, rfl, h1, hast2⟩ := AstN.head hast
  obtain ⟨c1, bs1, mid1, rfl, h2, rfl, -⟩ := AstN.head hast2
  have hw1 := hkids 0 a ka c0 _ _ rfl h1
  have hw2 := hkids 1 a2 ka2 c1 _ _ rfl h2
  simp only [F.size] at hn
  rcases hk with rfl | rfl
  · obtain ⟨hblk⟩ : Nonempty (Blk wb b 144 [ptr ba, ptr tk, .pointer none, nodeV a c0, nodeV a2 c1, .pointer none, .bool fl]) := by
      rcases hnode with ⟨g, _⟩ | ⟨g, _⟩ | ⟨g, _⟩ | ⟨g, _⟩ | ⟨g, _⟩ | ⟨g, _⟩ | ⟨g, _⟩ | ⟨g, _⟩ | ⟨g, _⟩ | ⟨g, v0, v1, e, h⟩ | ⟨g, _⟩ | ⟨g, _⟩ | ⟨g, _⟩ | ⟨g, _⟩
      all_goals first | (cases e; exact ⟨h⟩) | exact absurd g (by simp)
    have HB := Lib.hid (And.intro hblk (And.intro hba (And.intro HS (And.intro hw1 hw2))))
    clear hok hnode htok hblk hba HS hw1 hw2 hkids h1 h2 hast hast2 hall
    unfold nodeV at *
    simp only [tyOf]
    ((have ta162 := fun v xT w => ta_miss (t := 137) 162 (by decide) (by decide) v xT w; have ta106 := fun v xT w => ta_miss (t := 137) 106 (by decide) (by decide) v xT w; have ta113 := fun v xT w => ta_miss (t := 137) 113 (by decide) (by decide) v xT w; have ta117 := fun v xT w => ta_miss (t := 137) 117 (by decide) (by decide) v xT w; have ta125 := fun v xT w => ta_miss (t := 137) 125 (by decide) (by decide) v xT w; have ta128 := fun v xT w => ta_miss (t := 137) 128 (by decide) (by decide) v xT w; have ta109 := fun v xT w => ta_miss (t := 137) 109 (by decide) (by decide) v xT w; have ta120 := fun v xT w => ta_miss (t := 137) 120 (by decide) (by decide) v xT w; have ta123 := fun v xT w => ta_miss (t := 137) 123 (by decide) (by decide) v xT w; have ta130 := fun v xT w => ta_miss (t := 137) 130 (by decide) (by decide) v xT w; have ta156 := fun v xT w => ta_miss (t := 137) 156 (by decide) (by decide) v xT w; have ta159 := fun v xT w => ta_miss (t := 137) 159 (by decide) (by decide) v xT w; have ta101 := fun v xT w => ta_miss (t := 137) 101 (by decide) (by decide) v xT w; have ta133 := fun v xT w => ta_miss (t := 137) 133 (by decide) (by decide) v xT w; have ta138 := fun v xT w => ta_miss (t := 137) 138 (by decide) (by decide) v xT w; have ta137 := fun v xT w => ta_hit 137 (by decide) v xT w); go_enter Tryz.func30, Tryz.ntmps30; go_wp2_with fail; refine (visit_vs wb vb n _ _ xs _ hvs (by omega)).mono ?_; rintro e w1 ⟨rfl, hvs1⟩)
    have hc0 := (HB.out.1.below (hW.trans hvs1.below)).cell (off := 0) rfl
    have hc3 := (HB.out.1.below (hW.trans hvs1.below)).cell (off := 3) rfl
    go_wp2_with fail
    (refine (walkComment_any _ ba _ (HB.out.2.1.below (hW.trans hvs1.below))).mono ?_; rintro e w2 ⟨rfl, rfl⟩)
    go_wp2_with fail
    refine (HB.out.2.2.2.1 vb (n + 1) _ _ (hW.trans hvs1.below) hvs1.here (by omega)).mono ?_
    rintro e w3 ⟨ys, hys, rfl, hvs2⟩
    have hlen : (a :: ka.flat).length = ka.size + 1 := by simp [F.flat_length]
    rw [hlen] at hvs2
    have hc4 := (HB.out.1.below (hW.trans (hvs1.chain hvs2).below)).cell (off := 4) rfl
    clear hc0 hc3 hlen
    go_wp2_with fail
    refine (HB.out.2.2.2.2 vb _ _ _ (hW.trans (hvs1.chain hvs2).below) hvs2.here (by omega)).mono ?_
    rintro e w4 ⟨zs, hzs, rfl, hvs3⟩
    go_wp2_with fail
    refine ret_none rfl rfl ⟨_ :: (ys ++ zs), SeenL.cons HB.out.2.2.1 (by simpa [F.flat] using hys.append hzs), rfl, ?_⟩
    exact ((hvs1.chain hvs2).chain hvs3).cast (by simp [F.flat, F.flat_length]; omega) (by simp [tyOf])
  · obtain ⟨hblk⟩ : Nonempty (Blk wb b 152 [ptr ba, ptr tk, nodeV a c0, nodeV a2 c1]) := by
      rcases hnode with ⟨g, _⟩ | ⟨g, _⟩ | ⟨g, _⟩ | ⟨g, _⟩ | ⟨g, _⟩ | ⟨g, _⟩ | ⟨g, _⟩ | ⟨g, _⟩ | ⟨g, _⟩ | ⟨g, _⟩ | ⟨g, _⟩ | ⟨g, v0, v1, e, h⟩ | ⟨g, _⟩ | ⟨g, _⟩
      all_goals first | (cases e; exact ⟨h⟩) | exact absurd g (by simp)
    have HB := Lib.hid (And.intro hblk (And.intro hba (And.intro HS (And.intro hw1 hw2))))
    clear hok hnode htok hblk hba HS hw1 hw2 hkids h1 h2 hast hast2 hall
    unfold nodeV at *
    simp only [tyOf]
    ((have ta162 := fun v xT w => ta_miss (t := 150) 162 (by decide) (by decide) v xT w; have ta106 := fun v xT w => ta_miss (t := 150) 106 (by decide) (by decide) v xT w; have ta113 := fun v xT w => ta_miss (t := 150) 113 (by decide) (by decide) v xT w; have ta117 := fun v xT w => ta_miss (t := 150) 117 (by decide) (by decide) v xT w; have ta125 := fun v xT w => ta_miss (t := 150) 125 (by decide) (by decide) v xT w; have ta128 := fun v xT w => ta_miss (t := 150) 128 (by decide) (by decide) v xT w; have ta109 := fun v xT w => ta_miss (t := 150) 109 (by decide) (by decide) v xT w; have ta120 := fun v xT w => ta_miss (t := 150) 120 (by decide) (by decide) v xT w; have ta123 := fun v xT w => ta_miss (t := 150) 123 (by decide) (by decide) v xT w; have ta130 := fun v xT w => ta_miss (t := 150) 130 (by decide) (by decide) v xT w; have ta156 := fun v xT w => ta_miss (t := 150) 156 (by decide) (by decide) v xT w; have ta159 := fun v xT w => ta_miss (t := 150) 159 (by decide) (by decide) v xT w; have ta101 := fun v xT w => ta_miss (t := 150) 101 (by decide) (by decide) v xT w; have ta133 := fun v xT w => ta_miss (t := 150) 133 (by decide) (by decide) v xT w; have ta138 := fun v xT w => ta_miss (t := 150) 138 (by decide) (by decide) v xT w; have ta137 := fun v xT w => ta_miss (t := 150) 137 (by decide) (by decide) v xT w; have ta145 := fun v xT w => ta_miss (t := 150) 145 (by decide) (by decide) v xT w; have ta150 := fun v xT w => ta_hit 150 (by decide) v xT w); go_enter Tryz.func30, Tryz.ntmps30; go_wp2_with fail; refine (visit_vs wb vb n _ _ xs _ hvs (by omega)).mono ?_; rintro e w1 ⟨rfl, hvs1⟩)
    have hc0 := (HB.out.1.below (hW.trans hvs1.below)).cell (off := 0) rfl
    have hc2 := (HB.out.1.below (hW.trans hvs1.below)).cell (off := 2) rfl
    go_wp2_with fail
    (refine (walkComment_any _ ba _ (HB.out.2.1.below (hW.trans hvs1.below))).mono ?_; rintro e w2 ⟨rfl, rfl⟩)
    go_wp2_with fail
    refine (HB.out.2.2.2.1 vb (n + 1) _ _ (hW.trans hvs1.below) hvs1.here (by omega)).mono ?_
    rintro e w3 ⟨ys, hys, rfl, hvs2⟩
    have hlen : (a :: ka.flat).length = ka.size + 1 := by simp [F.flat_length]
    rw [hlen] at hvs2
    have hc3 := (HB.out.1.below (hW.trans (hvs1.chain hvs2).below)).cell (off := 3) rfl
    clear hc0 hc2 hlen
    go_wp2_with fail
    refine (HB.out.2.2.2.2 vb _ _ _ (hW.trans (hvs1.chain hvs2).below) hvs2.here (by omega)).mono ?_
    rintro e w4 ⟨zs, hzs, rfl, hvs3⟩
    go_wp2_with fail
    refine ret_none rfl rfl ⟨_ :: (ys ++ zs), SeenL.cons HB.out.2.2.1 (by simpa [F.flat] using hys.append hzs), rfl, ?_⟩
    exact ((hvs1.chain hvs2).chain hvs3).cast (by simp [F.flat, F.flat_length]; omega) (by simp [tyOf])
end Go.Proofs.YtpajcfkldnbpfaaGreatDoor
namespace Go.Proofs.YtpajcfkldnbpfaaGreatDoor
open Go.RowKit
theorem SlV.some {w : World} {t : Nat} {p : Option Addr} {vs : List Value} (h : SlV w t p vs) {m : Nat} (hm : m < vs.length) : ∃ g sp, p = some ⟨g, 0, none⟩ ∧ Blk w g t (vs ++ sp) := by
  rcases h with rfl | ⟨g, sp, rfl, h⟩
  · exact absurd hm (by simp)
  · exact ⟨g, sp, rfl, h⟩
theorem allTop_get {p : NH → Prop} : ∀ {k : F NH} {m : Nat} {x : NH} {kk : F NH}, allTop p k → k.get m = some (x, kk) → p x := by
  intro k
  induction k with
  | nil => intro m x kk _ h; cases h
  | cons h k r ihk ihr =>
    intro m x kk ha hg
    cases m with
    | zero =>
      simp only [F.get, Option.some.injEq, Prod.mk.injEq] at hg
      obtain ⟨rfl, rfl⟩ := hg
      exact ha.1
    | succ m => exact ihr ha.2 hg
set_option maxRecDepth 100000 in
set_option maxHeartbeats 2000000 in
theorem walk_seq (wb : World) (h : NH) (k : F NH) (b lo hi : Nat) (hk : h.kind = 14) (ha : AstN wb 0 lo hi (.cons h k .nil) [b]) (hok : NOK h k) (hall : k.all NOK) (hkids : ∀ i x kk c l1 h1, k.get i = some (x, kk) → AstN wb 0 l1 h1 (.cons x kk .nil) [c] → WalkC wb x kk c) : WalkC wb h k b := by
  (intro vb n xs w0 hW hvs hn; have HS : SeenAt wb 0 h (nodeV h b) := ⟨k, b, lo, hi, rfl, hok, hall, by have := F.len_le_size k; omega, ha⟩)
  obtain ⟨b', bs', ba, tk, pb, m1, mid, kb, e, -, -, htok, hba, hnode, hast, -⟩ := ha
  cases e
  obtain ⟨kd, ty, va, te, fl, co, of⟩ := h
  simp only at hk
  subst hk
  have hlen := hast.len
  obtain ⟨p, c, pc, cc, hsl, hblk⟩ : ∃ p c pc cc, SlV wb 55 p (ifs k kb) ∧ Blk wb b 149 [ptr ba, ptr tk, .pointer none, .bool fl, .slice p kb.length c, .slice pc kb.length cc, .slice none 0 0, .pointer none] := by
    rcases hnode with ⟨g, _⟩ | ⟨g, _⟩ | ⟨g, _⟩ | ⟨g, _⟩ | ⟨g, _⟩ | ⟨g, _⟩ | ⟨g, _⟩ | ⟨g, _⟩ | ⟨g, _⟩ | ⟨g, _⟩ | ⟨g, p, c, pc, cc, h1, h2, h3, h4, h⟩ | ⟨g, _⟩ | ⟨g, _⟩ | ⟨g, _⟩
    all_goals first | exact ⟨p, c, pc, cc, h3, h⟩ | exact absurd g (by simp)
  rw [hlen] at hblk
  have HB := Lib.hid (And.intro hblk (And.intro hba (And.intro HS (And.intro hast (And.intro hsl (And.intro hkids hlen))))))
  clear hok hnode htok hblk hba HS hkids hast hall hsl hlen
  unfold nodeV at *
  simp only [tyOf]
  ((have ta162 := fun v xT w => ta_miss (t := 145) 162 (by decide) (by decide) v xT w; have ta106 := fun v xT w => ta_miss (t := 145) 106 (by decide) (by decide) v xT w; have ta113 := fun v xT w => ta_miss (t := 145) 113 (by decide) (by decide) v xT w; have ta117 := fun v xT w => ta_miss (t := 145) 117 (by decide) (by decide) v xT w; have ta125 := fun v xT w => ta_miss (t := 145) 125 (by decide) (by decide) v xT w; have ta128 := fun v xT w => ta_miss (t := 145) 128 (by decide) (by decide) v xT w; have ta109 := fun v xT w => ta_miss (t := 145) 109 (by decide) (by decide) v xT w; have ta120 := fun v xT w => ta_miss (t := 145) 120 (by decide) (by decide) v xT w; have ta123 := fun v xT w => ta_miss (t := 145) 123 (by decide) (by decide) v xT w; have ta130 := fun v xT w => ta_miss (t := 145) 130 (by decide) (by decide) v xT w; have ta156 := fun v xT w => ta_miss (t := 145) 156 (by decide) (by decide) v xT w; have ta159 := fun v xT w => ta_miss (t := 145) 159 (by decide) (by decide) v xT w; have ta101 := fun v xT w => ta_miss (t := 145) 101 (by decide) (by decide) v xT w; have ta133 := fun v xT w => ta_miss (t := 145) 133 (by decide) (by decide) v xT w; have ta138 := fun v xT w => ta_miss (t := 145) 138 (by decide) (by decide) v xT w; have ta137 := fun v xT w => ta_miss (t := 145) 137 (by decide) (by decide) v xT w; have ta145 := fun v xT w => ta_hit 145 (by decide) v xT w); go_enter Tryz.func30, Tryz.ntmps30; go_wp2_with fail; refine (visit_vs wb vb n _ _ xs _ hvs (by omega)).mono ?_; rintro e w1 ⟨rfl, hvs1⟩)
  have hc0 := (HB.out.1.below (hW.trans hvs1.below)).cell (off := 0) rfl
  have hc4 := (HB.out.1.below (hW.trans hvs1.below)).cell (off := 4) rfl
  go_wp2_with fail
  (refine (walkComment_any _ ba _ (HB.out.2.1.below (hW.trans hvs1.below))).mono ?_; rintro e w2 ⟨rfl, rfl⟩)
  have HV := Lib.hid hvs1
  have hb1 := hW.trans hvs1.below
  clear hvs hvs1
  go_wp2_with fail
  go_loopw [257] (fun i wx => ∃ (m : Nat) (ys : List Value), i = .int .i64 m ∧ m ≤ k.len ∧ Hid (SeenL wb 0 (k.take m).flat ys ∧ VS wb vb (n + 1 + (k.take m).size) (xs ++ [.iface 145 (ptr b)] ++ ys) w1 wx)) (fun i _ => k.len - (intOf i).toNat)
  case atStart => exact ⟨0, [], rfl, Nat.zero_le _, Lib.hid ⟨by rw [show k.take 0 = .nil by cases k <;> rfl]; rfl, by rw [show k.take 0 = .nil by cases k <;> rfl]; simpa [F.size] using HV.out.here⟩⟩
  case round =>
    obtain ⟨m, ys, rfl, hmk, HI⟩ := hrel
    have hkl := F.len_le_size k
    by_cases hm : (m : Int) < k.len
    · obtain ⟨x, kk, hg⟩ := F.get_lt (f := k) (i := m) (by omega)
      obtain ⟨c0, l1, h1, e1, e2, hx⟩ := HB.out.2.2.2.1.get hg
      obtain ⟨g, sp, rfl, hbg⟩ := HB.out.2.2.2.2.1.some (m := m) (List.getElem?_eq_some_iff.1 e2).1
      have hcell := (hbg.below (hW.trans (HV.out.chain HI.out.2).below)).cell (off := m) (by rw [List.getElem?_append_left (List.getElem?_eq_some_iff.1 e2).1]; exact e2)
      have hsz := F.size_take_le k (m + 1)
      rw [F.take_succ hg, F.size_snoc] at hsz
      have hwc := HB.out.2.2.2.2.2.1 m x kk c0 l1 h1 hg hx vb (n + 1 + (k.take m).size) (xs ++ [.iface 145 (ptr b)] ++ ys) wr (hW.trans (HV.out.chain HI.out.2).below) HI.out.2.here (by omega)
      have HC := Lib.hid (And.intro hwc hg)
      clear hwc hx e1 e2 hbg hg
      unfold nodeV at hcell
      go_wp2_with fail
      refine HC.out.1.mono ?_
      rintro e w3 ⟨zs, hzs, rfl, hvs3⟩
      go_wp2_with fail
      go_round
      case rel =>
        refine ⟨m + 1, ys ++ zs, by rw [show (m : Int) + 1 = ((m + 1 : Nat) : Int) by omega], by omega, Lib.hid ?_⟩
        rw [F.take_succ HC.out.2, F.flat_snoc, F.size_snoc]
        refine ⟨HI.out.1.append hzs, ?_⟩
        have h5 := HI.out.2.chain hvs3
        exact h5.cast (by simp [F.flat_length]; omega) (by simp [tyOf])
      case measure => simp [intOf]; omega
    · have hmk2 : m = k.len := by omega
      subst hmk2
      go_wp2_with fail
      refine ret_none rfl rfl ?_
      have h1 := HI.out
      rw [F.take_len] at h1
      refine ⟨_ :: ys, SeenL.cons HB.out.2.2.1 h1.1, rfl, ?_⟩
      exact (HV.out.chain h1.2).cast (by simp [F.flat_length]; omega) (by simp [tyOf])
set_option maxRecDepth 100000 in
set_option maxHeartbeats 2000000 in
theorem walk_map (wb : World) (h : NH) (k : F NH) (b lo hi : Nat) (hk : h.kind = 11) (ha : AstN wb 0 lo hi (.cons h k .nil) [b]) (hok : NOK h k) (hall : k.all NOK) (hkids : ∀ i x kk c l1 h1, k.get i = some (x, kk) → AstN wb 0 l1 h1 (.cons x kk .nil) [c] → WalkC wb x kk c) : WalkC wb h k b := by
  (intro vb n xs w0 hW hvs hn; have HS : SeenAt wb 0 h (nodeV h b) := ⟨k, b, lo, hi, rfl, hok, hall, by have := F.len_le_size k; omega, ha⟩)
  obtain ⟨b', bs', ba, tk, pb, m1, mid, kb, e, -, -, htok, hba, hnode, hast, -⟩ := ha
  cases e
  obtain ⟨kd, ty, va, te, fl, co, of⟩ := h
  simp only at hk
  subst hk
  have hlen := hast.len
  have h13 : allTop (fun x => x.kind = 13) k := by
    rcases hok.2.2.2 with ⟨_, h, _⟩ | ⟨h, _⟩ | ⟨_, _, h⟩ | ⟨h, _⟩ | ⟨h, _⟩ | ⟨h, _⟩ | ⟨h, _⟩ | ⟨h, _⟩
    · unfold LeafN at h; simp at h
    all_goals first | exact h | exact absurd h (by simp)
  obtain ⟨p, c, hsl, hblk⟩ : ∃ p c, SlV wb 137 p (kb.map ptr) ∧ Blk wb b 136 [ptr ba, ptr tk, .pointer none, .bool fl, .slice p kb.length c, .pointer none] := by
    rcases hnode with ⟨g, _⟩ | ⟨g, _⟩ | ⟨g, _⟩ | ⟨g, _⟩ | ⟨g, _⟩ | ⟨g, _⟩ | ⟨g, _⟩ | ⟨g, _⟩ | ⟨g, p, c, h1, h2, h⟩ | ⟨g, _⟩ | ⟨g, _⟩ | ⟨g, _⟩ | ⟨g, _⟩ | ⟨g, _⟩
    all_goals first | exact ⟨p, c, h2, h⟩ | exact absurd g (by simp)
  rw [hlen] at hblk
  have HB := Lib.hid (And.intro hblk (And.intro hba (And.intro HS (And.intro hast (And.intro hsl (And.intro hkids (And.intro hlen h13)))))))
  clear hok hnode htok hblk hba HS hkids hast hall hsl hlen h13
  unfold nodeV at *
  simp only [tyOf]
  ((have ta162 := fun v xT w => ta_miss (t := 133) 162 (by decide) (by decide) v xT w; have ta106 := fun v xT w => ta_miss (t := 133) 106 (by decide) (by decide) v xT w; have ta113 := fun v xT w => ta_miss (t := 133) 113 (by decide) (by decide) v xT w; have ta117 := fun v xT w => ta_miss (t := 133) 117 (by decide) (by decide) v xT w; have ta125 := fun v xT w => ta_miss (t := 133) 125 (by decide) (by decide) v xT w; have ta128 := fun v xT w => ta_miss (t := 133) 128 (by decide) (by decide) v xT w; have ta109 := fun v xT w => ta_miss (t := 133) 109 (by decide) (by decide) v xT w; have ta120 := fun v xT w => ta_miss (t := 133) 120 (by decide) (by decide) v xT w; have ta123 := fun v xT w => ta_miss (t := 133) 123 (by decide) (by decide) v xT w; have ta130 := fun v xT w => ta_miss (t := 133) 130 (by decide) (by decide) v xT w; have ta156 := fun v xT w => ta_miss (t := 133) 156 (by decide) (by decide) v xT w; have ta159 := fun v xT w => ta_miss (t := 133) 159 (by decide) (by decide) v xT w; have ta101 := fun v xT w => ta_miss (t := 133) 101 (by decide) (by decide) v xT w; have ta133 := fun v xT w => ta_hit 133 (by decide) v xT w); go_enter Tryz.func30, Tryz.ntmps30; go_wp2_with fail; refine (visit_vs wb vb n _ _ xs _ hvs (by omega)).mono ?_; rintro e w1 ⟨rfl, hvs1⟩)
  have hc0 := (HB.out.1.below (hW.trans hvs1.below)).cell (off := 0) rfl
  have hc4 := (HB.out.1.below (hW.trans hvs1.below)).cell (off := 4) rfl
  go_wp2_with fail
  (refine (walkComment_any _ ba _ (HB.out.2.1.below (hW.trans hvs1.below))).mono ?_; rintro e w2 ⟨rfl, rfl⟩)
  have HV := Lib.hid hvs1
  have hb1 := hW.trans hvs1.below
  clear hvs hvs1
  go_wp2_with fail
  go_loopw [198] (fun i wx => ∃ (m : Nat) (ys : List Value), i = .int .i64 m ∧ m ≤ k.len ∧ Hid (SeenL wb 0 (k.take m).flat ys ∧ VS wb vb (n + 1 + (k.take m).size) (xs ++ [.iface 133 (ptr b)] ++ ys) w1 wx)) (fun i _ => k.len - (intOf i).toNat)
  case atStart => exact ⟨0, [], rfl, Nat.zero_le _, Lib.hid ⟨by rw [show k.take 0 = .nil by cases k <;> rfl]; rfl, by rw [show k.take 0 = .nil by cases k <;> rfl]; simpa [F.size] using HV.out.here⟩⟩
  case round =>
    obtain ⟨m, ys, rfl, hmk, HI⟩ := hrel
    have hkl := F.len_le_size k
    by_cases hm : (m : Int) < k.len
    · obtain ⟨x, kk, hg⟩ := F.get_lt (f := k) (i := m) (by omega)
      obtain ⟨c0, l1, h1, e1, e2, hx⟩ := HB.out.2.2.2.1.get hg
      have e3 : (kb.map ptr)[m]? = some (ptr c0) := by rw [List.getElem?_map, e1]; rfl
      obtain ⟨g, sp, rfl, hbg⟩ := HB.out.2.2.2.2.1.some (m := m) (List.getElem?_eq_some_iff.1 e3).1
      have hcell := (hbg.below (hW.trans (HV.out.chain HI.out.2).below)).cell (off := m) (by rw [List.getElem?_append_left (List.getElem?_eq_some_iff.1 e3).1]; exact e3)
      have hsz := F.size_take_le k (m + 1)
      rw [F.take_succ hg, F.size_snoc] at hsz
      have hwc := HB.out.2.2.2.2.2.1 m x kk c0 l1 h1 hg hx vb (n + 1 + (k.take m).size) (xs ++ [.iface 133 (ptr b)] ++ ys) wr (hW.trans (HV.out.chain HI.out.2).below) HI.out.2.here (by omega)
      have hx13 := allTop_get HB.out.2.2.2.2.2.2.2 hg
      unfold nodeV at hwc
      rw [show tyOf x.kind = 137 by rw [hx13]; rfl] at hwc
      have HC := Lib.hid (And.intro hwc hg)
      clear hwc hx e1 e2 e3 hbg hg hx13
      go_wp2_with fail
      refine HC.out.1.mono ?_
      rintro e w3 ⟨zs, hzs, rfl, hvs3⟩
      go_wp2_with fail
      go_round
      case rel =>
        refine ⟨m + 1, ys ++ zs, by rw [show (m : Int) + 1 = ((m + 1 : Nat) : Int) by omega], by omega, Lib.hid ?_⟩
        rw [F.take_succ HC.out.2, F.flat_snoc, F.size_snoc]
        refine ⟨HI.out.1.append hzs, ?_⟩
        have h5 := HI.out.2.chain hvs3
        exact h5.cast (by simp [F.flat_length]; omega) (by simp [tyOf])
      case measure => simp [intOf]; omega
    · have hmk2 : m = k.len := by omega
      subst hmk2
      go_wp2_with fail
      refine ret_none rfl rfl ?_
      have h1 := HI.out
      rw [F.take_len] at h1
      refine ⟨_ :: ys, SeenL.cons HB.out.2.2.1 h1.1, rfl, ?_⟩
      exact (HV.out.chain h1.2).cast (by simp [F.flat_length]; omega) (by simp [tyOf])
theorem walk_any (wb : World) : ∀ (s : Nat) (h : NH) (k : F NH) (b lo hi : Nat), k.size < s → AstN wb 0 lo hi (.cons h k .nil) [b] → NOK h k → k.all NOK → WalkC wb h k b := by
  intro s
  induction s with
  | zero => intro h k b lo hi hs; exact absurd hs (Nat.not_lt_zero _)
  | succ s ih =>
    intro h k b lo hi hs ha hok hall
    have hkids : ∀ i x kk c l1 h1, k.get i = some (x, kk) → AstN wb 0 l1 h1 (.cons x kk .nil) [c] → WalkC wb x kk c := fun i x kk c l1 h1 hg hx => by
      have h2 := F.size_get hg
      obtain ⟨h3, h4⟩ := F.all_get hall hg
      exact ih x kk c l1 h1 (by omega) hx h3 h4
    rcases hok.2.2.2 with ⟨rfl, h1, _⟩ | ⟨h1, _⟩ | ⟨h1, _⟩ | ⟨h1, _⟩ | ⟨h1, _⟩ | ⟨h1, _⟩ | ⟨h1, _⟩ | ⟨h1, _⟩
    · refine walk_leaf wb h b lo hi ?_ ha hok
      unfold LeafN at h1
      omega
    · exact walk_one wb h k b lo hi (.inl h1) ha hok hall hkids
    · exact walk_map wb h k b lo hi h1 ha hok hall hkids
    · exact walk_two wb h k b lo hi (.inl h1) ha hok hall hkids
    · exact walk_seq wb h k b lo hi h1 ha hok hall hkids
    · exact walk_two wb h k b lo hi (.inr h1) ha hok hall hkids
    · exact walk_one wb h k b lo hi (.inr (.inl h1)) ha hok hall hkids
    · exact walk_one wb h k b lo hi (.inr (.inr h1)) ha hok hall hkids
def VisitedR (w0 : World) (c : Int) (f : List NH) (w : World) (e : Ending) (w' : World) : Prop := ∃ (oid : Option Nat) (cap : Nat) (ys sp : List Value), e = .returned (.slice (slP oid) f.length cap) ∧ SeenL w0 0 f ys ∧ Gr 1 oid f.length cap ys sp ∧ St w0.heap.size ⟨[52, 55], []⟩ w0 w' [(oid, ys ++ sp, 55)]
set_option maxHeartbeats 400000 in
theorem visited_any (h : NH) (k : F NH) (b lo hi : Nat) (w0 : World) (ha : AstN w0 0 lo hi (.cons h k .nil) [b]) (hok : NOK h k) (hall : k.all NOK) (hn : k.size ≤ 900) : Calls Tryz.prog 17 #[nodeV h b] w0 (VisitedR w0 0 (h :: k.flat) w0) := by
  have hst := St.nil w0.heap.size ⟨[52, 55], []⟩ w0 (Nat.le_refl _)
  have hw := walk_any w0 _ h k b lo hi (Nat.lt_succ_self _) ha hok hall
  have HW := Lib.hid hw
  clear hw ha hok hall
  go_enter Tryz.func17, Tryz.ntmps17
  go_wp2_with ((first | ((with_reducible refine at_load ?_); first | refine X1 hst ?_ | refine XW hst ?_) | ((with_reducible refine at_store ?_); (first | refine Y1 hst ?_ | refine YW hst ?_); clear hst; intro w hst) | ((first | ((with_reducible refine at_alloc ?_); refine ZP hst ?_) | ((with_reducible refine at_box ?_); refine ZP hst ?_) | ((with_reducible refine at_bslice ?_); refine ZS hst ?_)); clear hst; (first | ((fail_if_success have := b0); intro b0 w hb0 hst) | (intro b1 w hb1 hst)))))
  refine (HW.out b0 0 [] _ hst.kp.below ⟨none, 0, [], (hst.perm (List.Perm.refl _)).rebase2 (List.Sublist.refl _) rfl |>.addNone [] 55 |>.perm (List.Perm.swap _ _ _), Gr.empty 1⟩ (by omega)).mono ?_
  rintro e w2 ⟨ys, hys, rfl, oid, cap, sp, hst2, hgr⟩
  have HST := Lib.hid hst
  replace hst := hst2
  clear hst2
  go_wp2_with ((first | ((with_reducible refine at_load ?_); first | refine X1 hst ?_ | refine XW hst ?_) | ((with_reducible refine at_store ?_); (first | refine Y1 hst ?_ | refine YW hst ?_); clear hst; intro w hst)))
  refine ret_tmp rfl rfl rfl ?_
  refine ⟨oid, cap, ys, sp, ?_, hys, ?_, ?_⟩
  · simp
  · simpa using hgr
  · have h5 := (HST.out.chain hst).sub (.cons _ (List.Sublist.refl _))
    simpa using h5
end Go.Proofs.YtpajcfkldnbpfaaGreatDoor
namespace Go.Proofs.YtpajcfkldnbpfaaGreatDoor
open Go.RowKit
def cellsN : List NH → List Value
  | [] => []
  | h :: hs => nL h (.slice none 0 0) ++ cellsN hs
theorem cellsN_append : ∀ (a b : List NH), cellsN (a ++ b) = cellsN a ++ cellsN b
  | [], _ => rfl
  | h :: a, b => by simp only [List.cons_append, cellsN, cellsN_append a b, List.append_assoc]
theorem cellsN_length : ∀ (a : List NH), (cellsN a).length = a.length * 19
  | [] => rfl
  | h :: a => by simp only [cellsN, List.length_append, cellsN_length a, List.length_cons]; simp [nL]; omega
theorem cellsN_one : ∀ (a : List NH), ((cellsN a).all Value.oneCell') = true
  | [] => rfl
  | h :: a => by
    simp only [cellsN, List.all_append, cellsN_one a, Bool.and_true]
    rfl
theorem cellsN_get : ∀ {a : List NH} {i : Nat} {h : NH} {j : Nat} {v : Value}, a[i]? = some h → (nL h (.slice none 0 0))[j]? = some v → (cellsN a)[i * 19 + j]? = some v
  | x :: a, 0, h, j, v, e, hv => by
    simp only [List.getElem?_cons_zero, Option.some.injEq] at e
    subst e
    rw [cellsN, Nat.zero_mul, Nat.zero_add, List.getElem?_append_left (List.getElem?_eq_some_iff.1 hv).1]
    exact hv
  | x :: a, i + 1, h, j, v, e, hv => by
    simp only [List.getElem?_cons_succ] at e
    rw [cellsN, List.getElem?_append_right (by simp [nL]; omega)]
    have := cellsN_get (a := a) e hv
    rw [← this]
    congr 1
    simp [nL]
    omega
def NodesR (f : List NH) (w0 : World) (e : Ending) (w' : World) : Prop := ∃ (g cap : Nat) (sp : List Value), e = .returned (.slice (some ⟨g, 0, none⟩) f.length cap) ∧ Gr 19 (some g) f.length cap (cellsN f) sp ∧ St w0.heap.size ⟨[], []⟩ w0 w' [(some g, cellsN f ++ sp, 31)]
set_option maxRecDepth 100000 in
set_option maxHeartbeats 2000000 in
theorem visitedN_any : ∀ (s : Nat) (h : NH) (k : F NH) (A : Nat → Nat → Prop) (p : Option Addr) (c : Nat) (w0 : World), k.size < s → k.size ≤ 900 → Sl NS A w0 p k → Calls Tryz.prog 10 #[nval h (.slice p k.len c)] w0 (NodesR (h :: k.flat) w0) := by
  intro s
  induction s with
  | zero => intro h k A p c w0 hs; exact absurd hs (Nat.not_lt_zero _)
  | succ s ih =>
    intro h k A p c w0 hs hsz hsl
    have hkl := F.len_le_size k
    have HS := Lib.hid (And.intro hsl ih)
    clear hsl ih
    have hst := St.nil w0.heap.size ⟨[], []⟩ w0 (Nat.le_refl _)
    unfold nval
    go_enter Tryz.func10, Tryz.ntmps10
    go_wp2_with ((first | ((with_reducible refine at_load ?_); first | refine X1 hst ?_ | refine XW hst ?_) | ((with_reducible refine at_store ?_); (first | refine Y1 hst ?_ | refine YW hst ?_); clear hst; intro w hst) | ((first | ((with_reducible refine at_alloc ?_); refine ZP hst ?_) | ((with_reducible refine at_box ?_); refine ZP hst ?_) | ((with_reducible refine at_bslice ?_); refine ZS hst ?_)); clear hst; (first | ((fail_if_success have := b0); intro b0 w hb0 hst) | ((fail_if_success have := b1); intro b1 w hb1 hst) | (intro b2 w hb2 hst)))))
    refine (aloneN_any h p k.len c _).mono ?_
    rintro e w1 ⟨rfl, hb⟩
    replace hst := hst.below hb
    clear hb
    unfold nval
    go_wp2_with (first | (first | ((with_reducible refine at_bslice ?_); (refine ZS hst ?_; clear hst; (first | ((fail_if_success have := b0); intro b0 w hb0 hst) | ((fail_if_success have := b1); intro b1 w hb1 hst) | (intro b2 w hb2 hst)))) | ((with_reducible refine at_append ?_); (refine wl_appH hst rfl rfl rfl rfl (by first | exact el213 | exact el22 | exact el28 | exact el29 | exact el48 | exact el52 | exact el134 | exact el146 | exact el205) hgr (by decide) (by decide) rfl rfl (by omega) (by simp only [maxLen]; omega) ?_; clear hst hgr; intro oid cap sp w hst hgr hno))) | (first | ((with_reducible refine at_load ?_); first | refine X1 hst ?_ | refine XW hst ?_) | ((with_reducible refine at_store ?_); (first | refine Y1 hst ?_ | refine YW hst ?_); clear hst; intro w hst)))
    have HST := Lib.hid hst
    clear hst
    go_loopw [12, 3] (fun i o wx => ∃ (m : Nat) (oid : Option Nat) (cap : Nat) (sp : List Value), i = .int .i64 m ∧ m ≤ k.len ∧ o = .slice (slP oid) ((k.take m).size + 1) cap ∧ Hid (oid ≠ none ∧ Gr 19 oid ((k.take m).size + 1) cap (cellsN (h :: (k.take m).flat)) sp) ∧ Hid (St w0.heap.size ⟨[], []⟩ w0 wx [(oid, cellsN (h :: (k.take m).flat) ++ sp, 31), (some b0, [.int .i64 h.kind, .int .i64 h.typ, .string h.value, .string h.text, .string h.text, .string ByteArray.empty, .bool h.flow, .bool false, .bool false, .int .i64 1, .int .i64 h.col, .int .i64 h.off, .int .i64 0, .int .i64 0, .slice none 0 0, .slice none 0 0, .slice none 0 0, .slice none 0 0, .slice p k.len c], 31)])) (fun i _ _ => k.len - (intOf i).toNat)
    case atStart =>
      have h0 : k.take 0 = .nil := by cases k <;> rfl
      refine ⟨0, some b1, 1, [], rfl, Nat.zero_le _, ?_, Lib.hid ⟨by simp, ?_⟩, Lib.hid ?_⟩
      · rw [h0]; rfl
      · rw [h0]; exact ⟨rfl, rfl, Nat.le_refl _, by simp [maxLen, F.size], fun h => by cases h⟩
      · rw [h0]; exact HST.out
    case round =>
      obtain ⟨m, oid, cap, sp, rfl, hmk, rfl, HG, HL⟩ := hrel
      by_cases hm : (m : Int) < k.len
      · obtain ⟨x, kk, hg⟩ := F.get_lt (f := k) (i := m) (by omega)
        obtain ⟨pb', po, q, capq, tq, rfl, hcap, hslq, -, hlt, hcc⟩ := Sl.at2 HS.out.1 hg
        have hlow := HL.out.kp.low pb' hlt
        have hcell : ∀ (j : Nat) (v : Value), ([.int .i64 x.kind, .int .i64 x.typ, .string x.value, .string x.text, .string x.text, .string ByteArray.empty, .bool x.flow, .bool false, .bool false, .int .i64 1, .int .i64 x.col, .int .i64 x.off, .int .i64 0, .int .i64 0, .slice none 0 0, .slice none 0 0, .slice none 0 0, .slice none 0 0, .slice q kk.len capq] : List Value)[j]? = some v → wr.cell? ⟨pb', po + m * 19 + j, none⟩ = some v := fun j v hv => by
          have h1 := hcc j v hv
          simp only [World.cell?] at h1 ⊢
          rw [hlow]
          exact h1
        have hsz2 := F.size_take_le k (m + 1)
        rw [F.take_succ hg, F.size_snoc] at hsz2
        have HC := Lib.hid (And.intro hcell (And.intro hslq (And.intro hg (F.size_get hg))))
        clear hcell hcap hslq hlt hcc hlow
        have hst := HL.out
        go_wp2_with (first | ((with_reducible refine at_load ?_); refine wl_ldc (vs := [.int .i64 x.kind, .int .i64 x.typ, .string x.value, .string x.text, .string x.text, .string ByteArray.empty, .bool x.flow, .bool false, .bool false, .int .i64 1, .int .i64 x.col, .int .i64 x.off, .int .i64 0, .int .i64 0, .slice none 0 0, .slice none 0 0, .slice none 0 0, .slice none 0 0, .slice q kk.len capq]) rfl rfl rfl HC.out.1 (by exact agg_of rfl rfl) ?_) | (first | ((with_reducible refine at_load ?_); first | refine X1 hst ?_ | refine XW hst ?_) | ((with_reducible refine at_store ?_); (first | refine Y1 hst ?_ | refine YW hst ?_); clear hst; intro w hst) | ((first | ((with_reducible refine at_alloc ?_); refine ZP hst ?_) | ((with_reducible refine at_box ?_); refine ZP hst ?_) | ((with_reducible refine at_bslice ?_); refine ZS hst ?_)); clear hst; (first | ((fail_if_success have := b0); intro b0 w hb0 hst) | ((fail_if_success have := b1); intro b1 w hb1 hst) | (intro b2 w hb2 hst)))))
        have hgs := HC.out.2.2.2
        refine (HS.out.2 x kk A q capq _ (by omega) (by omega) (HC.out.2.1.lt hst.kp.below)).mono ?_
        rintro e w3 ⟨g3, cap3, sp3, rfl, hgr3, hst3⟩
        replace hst := hst.below hst3.kp.below
        have HB3 := Lib.hid (hst3.blk (b := g3) (by (repeat' (first | exact List.Mem.head _ | apply List.Mem.tail)); done))
        have hfl : (x :: kk.flat).length = kk.size + 1 := by simp [F.flat_length]
        have HFL := Lib.hid hfl
        clear hst3 hgr3
        rw [hfl]
        clear hfl
        replace hst := hst.sub (.cons _ (List.Sublist.refl _))
        go_wp2_with ((with_reducible refine at_append ?_); refine wl_app (i := 0) (oid := oid) (n := (k.take m).size + 1) (xs := cellsN (h :: (k.take m).flat)) (sp := sp) (news := cellsN (x :: kk.flat)) hst rfl rfl rfl rfl el29 rfl HG.out.2 (by decide) (Nat.succ_pos _) (by rw [cellsN_length, HFL.out]) (fun j v hv => ?_) (cellsN_one _) (by omega) (by simp only [maxLen]; omega) ?_)
        · rw [add_lit, Nat.zero_add]
          exact HB3.out.cell (by rw [List.getElem?_append_left (List.getElem?_eq_some_iff.1 hv).1]; exact hv)
        · clear hst
          intro oid' cap' sp' w hst hgr hno
          simp only [List.set_cons_zero, slV_eq] at hst ⊢
          have HG2 := Lib.hid (And.intro hgr hno)
          clear hgr hno
          go_wp2_with fail
          go_round
          case rel =>
            have e1 : (k.take (m + 1)).size + 1 = (k.take m).size + 1 + (kk.size + 1) := by rw [F.take_succ HC.out.2.2.1, F.size_snoc]; omega
            have e2 : cellsN (h :: (k.take (m + 1)).flat) = cellsN (h :: (k.take m).flat) ++ cellsN (x :: kk.flat) := by rw [F.take_succ HC.out.2.2.1, F.flat_snoc, ← List.cons_append, cellsN_append]
            exact ⟨m + 1, oid', cap', sp', by rw [show (m : Int) + 1 = ((m + 1 : Nat) : Int) by omega], by omega, by rw [e1], Lib.hid ⟨HG2.out.2, by rw [e1, e2]; exact HG2.out.1⟩, Lib.hid (by rw [e2, List.append_assoc]; exact hst)⟩
          case measure => simp [intOf]; omega
      · have e : m = k.len := by omega
        subst e
        go_wp2_with fail
        refine ret_tmp rfl rfl rfl ?_
        obtain ⟨g, rfl⟩ : ∃ g, oid = some g := by
          cases oid with
          | none => exact absurd rfl HG.out.1
          | some g => exact ⟨g, rfl⟩
        have hG := HG.out.2
        have hL := HL.out.sub (.cons_cons _ (List.nil_sublist _))
        rw [F.take_len] at hG hL
        have e3 : (h :: k.flat).length = k.size + 1 := by simp [F.flat_length]
        refine ⟨g, cap, sp, ?_, by rw [e3]; exact hG, hL⟩
        rw [e3, F.take_len]
        rfl
end Go.Proofs.YtpajcfkldnbpfaaGreatDoor
