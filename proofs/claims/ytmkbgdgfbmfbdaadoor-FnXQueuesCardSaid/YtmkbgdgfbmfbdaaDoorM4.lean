/- symMerge. -/
import Derived.Test.YtmkbgdgfbmfbdaaDoorM3
namespace Go.Proofs.YtmkbgdgfbmfbdaaDoor.MG
open Go.RowKit

set_option maxRecDepth 1000000 in
set_option maxHeartbeats 4000000 in
theorem merge_any (B g n cap : Nat) (hn : n ≤ 1000) (k : Nat) : ∀ (w : World) (s1 s2 last : Nat) (L : List Item), last - s1 ≤ k → Row B w g n cap L → s1 ≤ s2 → s2 ≤ last → last ≤ n → Srt L s1 s2 → Srt L s2 last →
    Calls Tryd.prog 28 #[.slice (some ⟨g, 0, none⟩) n cap, .int .i64 s1, .int .i64 s2, .int .i64 last] w fun e_ w' => e_ = .returned (.tuple #[]) ∧ ∃ L', Merged L L' s1 last ∧ Row B w' g n cap L' ∧ Only [g] w w' := by
  induction k with
  | zero =>
    intro w s1 s2 last L hk h h1 h2 hl a1 a2
    have z1 : ¬ (s1 : Int) < (s2 : Int) := by omega
    have HH : Hid (Merged L L s1 last ∧ Row B w g n cap L) := ⟨Merged.none h1 h2 (by omega) a1 a2, h⟩
    clear h a1 a2 h1 h2
    go_enter Tryd.func28, Tryd.ntmps28
    go_wp2_with fail
    go_end0
    exact ⟨rfl, L, HH.out.1, HH.out.2, Only.refl _ _⟩
  | succ k ih =>
    intro w s1 s2 last L hk h h1 h2 hl a1 a2
    by_cases hc1 : s1 < s2
    · have z1 : (s1 : Int) < (s2 : Int) := by omega
      by_cases hc2 : s2 < last
      · have z2 : (s2 : Int) < (last : Int) := by omega
        have H0 : Hid (Row B w g n cap L ∧ Srt L s1 s2 ∧ Srt L s2 last) := ⟨h, a1, a2⟩
        have IH := Lib.hid ih
        clear ih h a1 a2 h1 h2
        obtain ⟨mid, hmid⟩ : ∃ mid, mid = (s1 + last) / 2 := ⟨_, rfl⟩
        have hm1 : s1 < mid := by omega
        have hm2 : mid < last := by omega
        have v1 : IntKind.i64.wrap ((s1 : Int) + (last : Int)) = (s1 : Int) + (last : Int) := by rw [IntKind.wrap_i64]; omega
        have v2' : Int.tdiv ((s1 : Int) + (last : Int)) 2 = (mid : Int) := by rw [Int.tdiv_eq_ediv_of_nonneg (by omega)]; omega
        have v2'' : ((s1 : Int) + (last : Int)) / 2 = (mid : Int) := by omega
        have v2 : IntKind.i64.wrap (mid : Int) = (mid : Int) := by rw [IntKind.wrap_i64]; omega
        obtain ⟨n0, hn0⟩ : ∃ n0, n0 = mid + s2 := ⟨_, rfl⟩
        have v3 : IntKind.i64.wrap ((mid : Int) + (s2 : Int)) = (n0 : Int) := by rw [IntKind.wrap_i64]; omega
        obtain ⟨t, ht⟩ : ∃ t, t = n0 - 1 := ⟨_, rfl⟩
        have v4 : IntKind.i64.wrap ((n0 : Int) - 1) = (t : Int) := by rw [IntKind.wrap_i64]; omega
        have hbs : Hid (∀ lo hi, lo = cutlo s1 s2 last → hi = cuthi s1 s2 last → ∀ W, Row B W g n cap L → Calls Tryd.prog 42 #[.slice (some ⟨g, 0, none⟩) n cap, .int .i64 lo, .int .i64 hi, .int .i64 t] W fun e_ w' => (∃ s : Nat, e_ = .returned (.int .i64 s) ∧ Found L lo hi t s) ∧ Below W.heap.size W w') := by
          intro lo hi e1 e2 W hW
          obtain ⟨c1, c2, c3, c4⟩ := cut_le hc1 hc2
          have hlo : cutlo s1 s2 last = if mid < s2 then mid + s2 - last else s1 := by rw [hmid]; rfl
          have hhi : cuthi s1 s2 last = if mid < s2 then mid else s2 := by rw [hmid]; rfl
          have ht' : t = (s1 + last) / 2 + s2 - 1 := by omega
          refine symBinary_any hW hn (by omega) ?_ ?_ (by omega) ?_
          · omega
          · intro _
            split at hlo <;> omega
          · intro m m' b1 b2 b3 b4
            subst e1 e2
            rw [ht'] at b4 ⊢
            exact cut_mono hc1 hc2 H0.out.2.1 H0.out.2.2 b1 b2 b3 b4
        have hfin : Hid (∀ lo hi s L1, lo = cutlo s1 s2 last → hi = cuthi s1 s2 last → Found L lo hi t s → s1 ≤ s ∧ s ≤ s2 ∧ s ≤ mid ∧ s2 ≤ n0 - s ∧ n0 - s ≤ last ∧ mid ≤ n0 - s ∧ s ≤ n0 ∧ (Rot L L1 s s2 (n0 - s) → 
            Srt L1 s1 s ∧ Srt L1 s mid ∧ Srt L1 mid (n0 - s) ∧ Srt L1 (n0 - s) last ∧
      (∀ i j, s1 ≤ i → i < mid → mid ≤ j → j < last → ky L1 i ≤ ky L1 j) ∧ (∀ k, k < s1 ∨ last ≤ k → gt_ L1 k = gt_ L k) ∧ (∀ k, s1 ≤ k → k < last → ∃ k', s1 ≤ k' ∧ k' < last ∧ gt_ L1 k = gt_ L k'))) := by
          intro lo hi s L1 e1 e2 hf
          obtain ⟨c1, c2, c3, c4⟩ := cut_le hc1 hc2
          have hlo : cutlo s1 s2 last = if mid < s2 then mid + s2 - last else s1 := by rw [hmid]; rfl
          have f1 := hf.low
          have f2 := hf.high
          refine ⟨by omega, by omega, by omega, by omega, by split at hlo <;> omega, by omega, by omega, fun hr => ?_⟩
          subst e1 e2
          have ht' : t = (s1 + last) / 2 + s2 - 1 := by omega
          rw [ht'] at hf
          rw [hn0, hmid] at hr ⊢
          exact merge_parts hc1 hc2 H0.out.2.1 H0.out.2.2 hf hr
        have hbr : mid < s2 → n0 - last = cutlo s1 s2 last ∧ mid = cuthi s1 s2 last ∧ last ≤ n0 := fun hb => by
          have hlo : cutlo s1 s2 last = if mid < s2 then mid + s2 - last else s1 := by rw [hmid]; rfl
          have hhi : cuthi s1 s2 last = if mid < s2 then mid else s2 := by rw [hmid]; rfl
          rw [if_pos hb] at hlo hhi
          omega
        have hbr2 : ¬ mid < s2 → s1 = cutlo s1 s2 last ∧ s2 = cuthi s1 s2 last := fun hb => by
          have hlo : cutlo s1 s2 last = if mid < s2 then mid + s2 - last else s1 := by rw [hmid]; rfl
          have hhi : cuthi s1 s2 last = if mid < s2 then mid else s2 := by rw [hmid]; rfl
          rw [if_neg hb] at hlo hhi
          omega
        have HBR := Lib.hid hbr
        have HBR2 := Lib.hid hbr2
        have HN0 : Hid (n0 = mid + s2 ∧ t = n0 - 1 ∧ mid = (s1 + last) / 2) := ⟨hn0, ht, hmid⟩
        have hn1 : n0 ≤ 2000 := by omega
        clear hmid hn0 ht hbr hbr2
        by_cases hb : mid < s2
        · have z3 : (mid : Int) < (s2 : Int) := by omega
          obtain ⟨lo, hlo⟩ : ∃ lo, lo = n0 - last := ⟨_, rfl⟩
          obtain ⟨q1, q2, q3⟩ := HBR.out hb
          have v5 : IntKind.i64.wrap ((n0 : Int) - (last : Int)) = (lo : Int) := by rw [IntKind.wrap_i64]; omega
          have HLO := Lib.hid (hlo.trans q1)
          have HHI := Lib.hid q2
          clear hlo q1 q2
          go_enter Tryd.func28, Tryd.ntmps28
          go_wp2_with fail
          refine (hbs.out lo mid HLO.out HHI.out _ H0.out.1).mono ?_
          rintro e w1 ⟨⟨s, rfl, hf⟩, hb1⟩
          obtain ⟨y1, y2, y3, y4, y5, y6, y8, _⟩ := hfin.out lo mid s L HLO.out HHI.out hf
          have H1 : Hid (Found L lo mid t s ∧ Below w.heap.size w w1 ∧ Row B w1 g n cap L) := ⟨hf, hb1, H0.out.1.same hb1⟩
          obtain ⟨e1, he1⟩ : ∃ e1, e1 = n0 - s := ⟨_, rfl⟩
          rw [← he1] at y4 y5 y6
          have HE1 := Lib.hid he1
          have v6 : IntKind.i64.wrap ((n0 : Int) - (s : Int)) = (e1 : Int) := by rw [IntKind.wrap_i64]; omega
          clear hf hb1 he1
          go_wp2_with fail
          refine (symRotate_any H1.out.2.2 hn y2 y4 (by omega)).mono ?_
          rintro e w2 ⟨rfl, L1, hr, hrow, ho⟩
          obtain ⟨_, _, _, _, _, _, _, hall⟩ := hfin.out lo mid s L1 HLO.out HHI.out H1.out.1
          have H2 : Hid (Rot L L1 s s2 e1 ∧ Row B w2 g n cap L1 ∧ Only [g] w w2) := ⟨hr, hrow, (Only.of_below H1.out.2.1).trans ho⟩
          have HALL := Lib.hid (hall (by rw [← HE1.out]; exact hr))
          clear hr hrow ho hall
          go_wp2_with fail
          refine (IH.out _ _ _ _ _ (by omega) H2.out.2.1 y1 y3 (by omega) HALL.out.1 HALL.out.2.1).mono ?_
          rintro e w3 ⟨rfl, L2, hr, hrow, ho⟩
          have H3 : Hid (Merged L1 L2 s1 mid ∧ Row B w3 g n cap L2 ∧ Only [g] w w3) := ⟨hr, hrow, H2.out.2.2.trans ho⟩
          clear hr hrow ho
          go_wp2_with fail
          refine (IH.out _ _ _ _ _ (by omega) H3.out.2.1 y6 y5 hl ?_ ?_).mono ?_
          · intro i j b1 b2 b3
            have := HALL.out.2.2.1 i j b1 b2 (by rw [← HE1.out]; exact b3)
            unfold ky at this ⊢
            rw [H3.out.1.out i (Or.inr b1), H3.out.1.out j (Or.inr (by omega))]
            exact this
          · intro i j b1 b2 b3
            have := HALL.out.2.2.2.1 i j (by rw [← HE1.out]; exact b1) b2 b3
            unfold ky at this ⊢
            rw [H3.out.1.out i (Or.inr (by omega)), H3.out.1.out j (Or.inr (by omega))]
            exact this
          rintro e w4 ⟨rfl, L3, hr, hrow, ho⟩
          have H4 : Hid (Merged L2 L3 mid last ∧ Row B w4 g n cap L3 ∧ Only [g] w w4) := ⟨hr, hrow, H3.out.2.2.trans ho⟩
          clear hr hrow ho
          go_wp2_with fail
          go_end0
          exact ⟨rfl, L3, merge_all (by omega) (by omega) H2.out.1.perm HALL.out.2.2.2.2.1 HALL.out.2.2.2.2.2.1 HALL.out.2.2.2.2.2.2 H3.out.1 H4.out.1, H4.out.2⟩
        · have z3 : ¬ (mid : Int) < (s2 : Int) := by omega
          obtain ⟨q1, q2⟩ := HBR2.out hb
          have HLO := Lib.hid q1
          have HHI := Lib.hid q2
          clear q1 q2
          go_enter Tryd.func28, Tryd.ntmps28
          go_wp2_with fail
          refine (hbs.out s1 s2 HLO.out HHI.out _ H0.out.1).mono ?_
          rintro e w1 ⟨⟨s, rfl, hf⟩, hb1⟩
          obtain ⟨y1, y2, y3, y4, y5, y6, y8, _⟩ := hfin.out s1 s2 s L HLO.out HHI.out hf
          have H1 : Hid (Found L s1 s2 t s ∧ Below w.heap.size w w1 ∧ Row B w1 g n cap L) := ⟨hf, hb1, H0.out.1.same hb1⟩
          obtain ⟨e1, he1⟩ : ∃ e1, e1 = n0 - s := ⟨_, rfl⟩
          rw [← he1] at y4 y5 y6
          have HE1 := Lib.hid he1
          have v6 : IntKind.i64.wrap ((n0 : Int) - (s : Int)) = (e1 : Int) := by rw [IntKind.wrap_i64]; omega
          clear hf hb1 he1
          go_wp2_with fail
          refine (symRotate_any H1.out.2.2 hn y2 y4 (by omega)).mono ?_
          rintro e w2 ⟨rfl, L1, hr, hrow, ho⟩
          obtain ⟨_, _, _, _, _, _, _, hall⟩ := hfin.out s1 s2 s L1 HLO.out HHI.out H1.out.1
          have H2 : Hid (Rot L L1 s s2 e1 ∧ Row B w2 g n cap L1 ∧ Only [g] w w2) := ⟨hr, hrow, (Only.of_below H1.out.2.1).trans ho⟩
          have HALL := Lib.hid (hall (by rw [← HE1.out]; exact hr))
          clear hr hrow ho hall
          go_wp2_with fail
          refine (IH.out _ _ _ _ _ (by omega) H2.out.2.1 y1 y3 (by omega) HALL.out.1 HALL.out.2.1).mono ?_
          rintro e w3 ⟨rfl, L2, hr, hrow, ho⟩
          have H3 : Hid (Merged L1 L2 s1 mid ∧ Row B w3 g n cap L2 ∧ Only [g] w w3) := ⟨hr, hrow, H2.out.2.2.trans ho⟩
          clear hr hrow ho
          go_wp2_with fail
          refine (IH.out _ _ _ _ _ (by omega) H3.out.2.1 y6 y5 hl ?_ ?_).mono ?_
          · intro i j b1 b2 b3
            have := HALL.out.2.2.1 i j b1 b2 (by rw [← HE1.out]; exact b3)
            unfold ky at this ⊢
            rw [H3.out.1.out i (Or.inr b1), H3.out.1.out j (Or.inr (by omega))]
            exact this
          · intro i j b1 b2 b3
            have := HALL.out.2.2.2.1 i j (by rw [← HE1.out]; exact b1) b2 b3
            unfold ky at this ⊢
            rw [H3.out.1.out i (Or.inr (by omega)), H3.out.1.out j (Or.inr (by omega))]
            exact this
          rintro e w4 ⟨rfl, L3, hr, hrow, ho⟩
          have H4 : Hid (Merged L2 L3 mid last ∧ Row B w4 g n cap L3 ∧ Only [g] w w4) := ⟨hr, hrow, H3.out.2.2.trans ho⟩
          clear hr hrow ho
          go_wp2_with fail
          go_end0
          exact ⟨rfl, L3, merge_all (by omega) (by omega) H2.out.1.perm HALL.out.2.2.2.2.1 HALL.out.2.2.2.2.2.1 HALL.out.2.2.2.2.2.2 H3.out.1 H4.out.1, H4.out.2⟩
      · have z2 : ¬ (s2 : Int) < (last : Int) := by omega
        have HH : Hid (Merged L L s1 last ∧ Row B w g n cap L) := ⟨Merged.none h1 h2 (by omega) a1 a2, h⟩
        clear h a1 a2 h1 h2 ih
        go_enter Tryd.func28, Tryd.ntmps28
        go_wp2_with fail
        go_end0
        exact ⟨rfl, L, HH.out.1, HH.out.2, Only.refl _ _⟩
    · have z1 : ¬ (s1 : Int) < (s2 : Int) := by omega
      have HH : Hid (Merged L L s1 last ∧ Row B w g n cap L) := ⟨Merged.none h1 h2 (by omega) a1 a2, h⟩
      clear h a1 a2 h1 h2 ih
      go_enter Tryd.func28, Tryd.ntmps28
      go_wp2_with fail
      go_end0
      exact ⟨rfl, L, HH.out.1, HH.out.2, Only.refl _ _⟩
end Go.Proofs.YtmkbgdgfbmfbdaaDoor.MG
