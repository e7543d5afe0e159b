/- Equal, merged, made: the thin package's calls on two filters, and on words. -/
import Derived.Test.YtbkodehcjhpcmaaL14
namespace Go.Proofs.Ytbkodehcjhpcmaa
open Go.RowKit

set_option maxRecDepth 100000 in
set_option maxHeartbeats 2000000 in
theorem BLEqual_any {w : World} {v v' : Value} {m k n : Nat} {f g : Nat → Nat} (h : Fil w v m k n f) (h' : Fil w v' m k n g) (he : ∀ i, i < n → f i = g i) (h0 : 0 < n) (hn : n ≤ 1000) :
    Calls Try.prog 9 #[v, v'] w fun e w' => e = .returned (.bool true) ∧ Below w.heap.size w w' := by
  obtain ⟨sl, rfl, ⟨xb, xo, xc, rfl, hw⟩, hs⟩ := h
  obtain ⟨sl', rfl, ⟨yb, yo, yc, rfl, hw'⟩, hs'⟩ := h'
  have HX : Hid (Fil w (.agg #[.int .u64 (m : Nat), .int .u64 (k : Nat), .slice (some ⟨xb, xo, none⟩) n xc]) m k n f) := ⟨_, rfl, ⟨xb, xo, xc, rfl, hw⟩, hs⟩
  have HY : Hid (Fil w (.agg #[.int .u64 (m : Nat), .int .u64 (k : Nat), .slice (some ⟨yb, yo, none⟩) n yc]) m k n g) := ⟨_, rfl, ⟨yb, yo, yc, rfl, hw'⟩, hs'⟩
  have HE := Lib.hid he
  clear hw hs hw' hs' he
  have b0 : Below w.heap.size w ((w.alloc (.cells #[.int .u64 (m : Nat), .int .u64 (k : Nat), .slice (some ⟨xb, xo, none⟩) n xc] 27)).alloc (.cells #[.int .u64 (m : Nat), .int .u64 (k : Nat), .slice (some ⟨yb, yo, none⟩) n yc] 27)) := ((Below.refl _ _).alloc (Nat.le_refl _) _).alloc (by simp) _
  have hBy := Blk.new (w.alloc (.cells #[.int .u64 (m : Nat), .int .u64 (k : Nat), .slice (some ⟨xb, xo, none⟩) n xc] 27)) #[.int .u64 (m : Nat), .int .u64 (k : Nat), .slice (some ⟨yb, yo, none⟩) n yc] 27
  have hBx : Blk ((w.alloc (.cells #[.int .u64 (m : Nat), .int .u64 (k : Nat), .slice (some ⟨xb, xo, none⟩) n xc] 27)).alloc (.cells #[.int .u64 (m : Nat), .int .u64 (k : Nat), .slice (some ⟨yb, yo, none⟩) n yc] 27)) w.heap.size #[.int .u64 (m : Nat), .int .u64 (k : Nat), .slice (some ⟨xb, xo, none⟩) n xc] 27 := (Blk.new w _ _).alloc _
  go_enter Try.func9, Try.ntmps9
  go_wp2_with fail
  generalize ((w.alloc (.cells #[.int .u64 (m : Nat), .int .u64 (k : Nat), .slice (some ⟨xb, xo, none⟩) n xc] 27)).alloc (.cells #[.int .u64 (m : Nat), .int .u64 (k : Nat), .slice (some ⟨yb, yo, none⟩) n yc] 27)) = W at *
  simp at hBy
  have hc : ∀ W', Below W.heap.size W W' → W'.cell? ⟨w.heap.size, 0, none⟩ = some (.int .u64 (m : Nat)) ∧ W'.cell? ⟨w.heap.size, 1, none⟩ = some (.int .u64 (k : Nat)) ∧ W'.cell? ⟨w.heap.size, 2, none⟩ = some (.slice (some ⟨xb, xo, none⟩) n xc) ∧ W'.cell? ⟨w.heap.size + 1, 0, none⟩ = some (.int .u64 (m : Nat)) ∧ W'.cell? ⟨w.heap.size + 1, 1, none⟩ = some (.int .u64 (k : Nat)) ∧ W'.cell? ⟨w.heap.size + 1, 2, none⟩ = some (.slice (some ⟨yb, yo, none⟩) n yc) := fun W' hb => by
    have h1 : Blk W' _ _ _ := (hb.block _ hBx.lt).trans hBx
    have h2 : Blk W' _ _ _ := (hb.block _ hBy.lt).trans hBy
    exact ⟨h1.cell rfl, h1.cell rfl, h1.cell rfl, h2.cell rfl, h2.cell rfl, h2.cell rfl⟩
  have HC := Lib.hid hc
  have H0 : Hid (Fil W (.agg #[.int .u64 (m : Nat), .int .u64 (k : Nat), .slice (some ⟨xb, xo, none⟩) n xc]) m k n f ∧ Fil W (.agg #[.int .u64 (m : Nat), .int .u64 (k : Nat), .slice (some ⟨yb, yo, none⟩) n yc]) m k n g ∧ Below w.heap.size w W) := ⟨HX.out.same b0, HY.out.same b0, b0⟩
  obtain ⟨y0, y1, y2, y3, y4, y5⟩ := hc W (Below.refl _ _)
  clear hc b0 hBx hBy HX HY
  go_region_held3 (fun w' => w'.cell? ⟨w.heap.size, 0, none⟩ = some (.int .u64 (m : Nat)) ∧ w'.cell? ⟨w.heap.size, 1, none⟩ = some (.int .u64 (k : Nat)) ∧ w'.cell? ⟨w.heap.size, 2, none⟩ = some (.slice (some ⟨xb, xo, none⟩) n xc) ∧ w'.cell? ⟨w.heap.size + 1, 0, none⟩ = some (.int .u64 (m : Nat)) ∧ w'.cell? ⟨w.heap.size + 1, 1, none⟩ = some (.int .u64 (k : Nat)) ∧ w'.cell? ⟨w.heap.size + 1, 2, none⟩ = some (.slice (some ⟨yb, yo, none⟩) n yc))
    (first | exact ⟨y0, y1, y2, y3, y4, y5⟩ | exact HC.out _ H3.out | exact HC.out _ H2.out.2.2 | exact HC.out _ H1.out.2)
    (first
      | (have := H2; go_at_call 24; refine (fequal_any H2.out.1 H2.out.2.1 HE.out h0 hn).mono ?_; rintro e w3 ⟨rfl, dd, rfl⟩; have H3 : Hid (Below W.heap.size W (w2.drewN dd)) := below_drewN H2.out.2.2 dd)
      | (have := H1; go_at_call 23; refine (filter_any (H0.out.2.1.same H1.out.2) h0 hn).mono ?_; rintro e w2 ⟨q2, p2, b2, c2, rfl, hq, hb⟩; have H2 : Hid (BF w2 W.heap.size q p b n c m k f ∧ BF w2 w1.heap.size q2 p2 b2 n c2 m k g ∧ Below W.heap.size W w2) := ⟨H1.out.1.below hb, hq, H1.out.2.trans (hb.mono H1.out.2.size)⟩; clear hq hb)
      | (go_at_call 23; refine (filter_any (H0.out.1.same (Below.refl _ _).drew) h0 hn).mono ?_; rintro e w1 ⟨q, p, b, c, rfl, hq, hb⟩; have H1 : Hid (BF w1 W.heap.size q p b n c m k f ∧ Below W.heap.size W w1) := ⟨hq, (Below.refl _ _).drew.trans hb⟩; clear hq hb))
  go_wp2_with fail
  go_ret
  exact ⟨rfl, H0.out.2.2.trans (H3.out.mono H0.out.2.2.size)⟩
set_option maxRecDepth 100000 in
set_option maxHeartbeats 2000000 in
theorem BLMerge_any {w : World} {v v' : Value} {m k n : Nat} {f g : Nat → Nat} (h : Fil w v m k n f) (h' : Fil w v' m k n g) (h0 : 0 < n) (hn : n ≤ 1000) :
    Calls Try.prog 16 #[v, v'] w fun e w' => (∃ gg cc, e = .returned (.tuple #[.agg #[.int .u64 (m : Nat), .int .u64 (k : Nat), .slice (some ⟨gg, 0, none⟩) n cc], .bool true]) ∧ Fil w' (.agg #[.int .u64 (m : Nat), .int .u64 (k : Nat), .slice (some ⟨gg, 0, none⟩) n cc]) m k n (ors n f g) ∧ w.heap.size ≤ gg) ∧ Below w.heap.size w w' := by
  obtain ⟨sl, rfl, ⟨xb, xo, xc, rfl, hw⟩, hs⟩ := h
  obtain ⟨sl', rfl, ⟨yb, yo, yc, rfl, hw'⟩, hs'⟩ := h'
  have HX : Hid (Fil w (.agg #[.int .u64 (m : Nat), .int .u64 (k : Nat), .slice (some ⟨xb, xo, none⟩) n xc]) m k n f) := ⟨_, rfl, ⟨xb, xo, xc, rfl, hw⟩, hs⟩
  have HY : Hid (Fil w (.agg #[.int .u64 (m : Nat), .int .u64 (k : Nat), .slice (some ⟨yb, yo, none⟩) n yc]) m k n g) := ⟨_, rfl, ⟨yb, yo, yc, rfl, hw'⟩, hs'⟩
  clear hw hs hw' hs'
  have b0 : Below w.heap.size w (((w.alloc (.cells #[.int .u64 (m : Nat), .int .u64 (k : Nat), .slice (some ⟨xb, xo, none⟩) n xc] 27)).alloc (.cells #[.int .u64 (m : Nat), .int .u64 (k : Nat), .slice (some ⟨yb, yo, none⟩) n yc] 27)).alloc (.cells #[.int .u64 0, .int .u64 0, .slice none 0 0] 27)) := (((Below.refl _ _).alloc (Nat.le_refl _) _).alloc (by simp) _).alloc (by simp; omega) _
  have hR := Blk.new ((w.alloc (.cells #[.int .u64 (m : Nat), .int .u64 (k : Nat), .slice (some ⟨xb, xo, none⟩) n xc] 27)).alloc (.cells #[.int .u64 (m : Nat), .int .u64 (k : Nat), .slice (some ⟨yb, yo, none⟩) n yc] 27)) #[.int .u64 0, .int .u64 0, .slice none 0 0] 27
  have hBy : Blk (((w.alloc (.cells #[.int .u64 (m : Nat), .int .u64 (k : Nat), .slice (some ⟨xb, xo, none⟩) n xc] 27)).alloc (.cells #[.int .u64 (m : Nat), .int .u64 (k : Nat), .slice (some ⟨yb, yo, none⟩) n yc] 27)).alloc (.cells #[.int .u64 0, .int .u64 0, .slice none 0 0] 27)) (w.heap.size + 1) #[.int .u64 (m : Nat), .int .u64 (k : Nat), .slice (some ⟨yb, yo, none⟩) n yc] 27 := by
    have := (Blk.new (w.alloc (.cells #[.int .u64 (m : Nat), .int .u64 (k : Nat), .slice (some ⟨xb, xo, none⟩) n xc] 27)) #[.int .u64 (m : Nat), .int .u64 (k : Nat), .slice (some ⟨yb, yo, none⟩) n yc] 27).alloc (.cells #[.int .u64 0, .int .u64 0, .slice none 0 0] 27)
    simpa using this
  have hBx : Blk (((w.alloc (.cells #[.int .u64 (m : Nat), .int .u64 (k : Nat), .slice (some ⟨xb, xo, none⟩) n xc] 27)).alloc (.cells #[.int .u64 (m : Nat), .int .u64 (k : Nat), .slice (some ⟨yb, yo, none⟩) n yc] 27)).alloc (.cells #[.int .u64 0, .int .u64 0, .slice none 0 0] 27)) w.heap.size #[.int .u64 (m : Nat), .int .u64 (k : Nat), .slice (some ⟨xb, xo, none⟩) n xc] 27 := ((Blk.new w _ _).alloc _).alloc _
  go_enter Try.func16, Try.ntmps16
  go_wp2_with fail
  generalize (((w.alloc (.cells #[.int .u64 (m : Nat), .int .u64 (k : Nat), .slice (some ⟨xb, xo, none⟩) n xc] 27)).alloc (.cells #[.int .u64 (m : Nat), .int .u64 (k : Nat), .slice (some ⟨yb, yo, none⟩) n yc] 27)).alloc (.cells #[.int .u64 0, .int .u64 0, .slice none 0 0] 27)) = W at *
  simp at hR
  have H0 : Hid (Fil W (.agg #[.int .u64 (m : Nat), .int .u64 (k : Nat), .slice (some ⟨xb, xo, none⟩) n xc]) m k n f ∧ Fil W (.agg #[.int .u64 (m : Nat), .int .u64 (k : Nat), .slice (some ⟨yb, yo, none⟩) n yc]) m k n g ∧ Below w.heap.size w W ∧ Blk W (w.heap.size + 1 + 1) #[.int .u64 0, .int .u64 0, .slice none 0 0] 27 ∧ Blk W (w.heap.size + 1) #[.int .u64 (m : Nat), .int .u64 (k : Nat), .slice (some ⟨yb, yo, none⟩) n yc] 27) := ⟨HX.out.same b0, HY.out.same b0, b0, hR, hBy⟩
  clear b0 hBx hBy hR HX HY
  refine (filter_any H0.out.1 h0 hn).mono ?_
  rintro e w1 ⟨q, p, b, c, rfl, hq, hb⟩
  have hby : Blk w1 (w.heap.size + 1) #[.int .u64 (m : Nat), .int .u64 (k : Nat), .slice (some ⟨yb, yo, none⟩) n yc] 27 := (hb.block _ H0.out.2.2.2.2.lt).trans H0.out.2.2.2.2
  have H1 : Hid (BF w1 W.heap.size q p b n c m k f ∧ Below W.heap.size W w1) := ⟨hq, hb⟩
  have y3 : w1.cell? ⟨w.heap.size + 1, 0, none⟩ = some (.int .u64 (m : Nat)) := hby.cell rfl
  have y4 : w1.cell? ⟨w.heap.size + 1, 1, none⟩ = some (.int .u64 (k : Nat)) := hby.cell rfl
  have y5 : w1.cell? ⟨w.heap.size + 1, 2, none⟩ = some (.slice (some ⟨yb, yo, none⟩) n yc) := hby.cell rfl
  clear hq hb hby
  go_wp2_with fail
  refine (filter_any (H0.out.2.1.same H1.out.2) h0 hn).mono ?_
  rintro e w2 ⟨q2, p2, b2, c2, rfl, hq, hb⟩
  have hlt := H1.out.1.rs.blt
  have H2 : Hid (BF w2 W.heap.size q p b n c m k f ∧ BF w2 w1.heap.size q2 p2 b2 n c2 m k g ∧ Below W.heap.size W w2 ∧ b < w1.heap.size) := ⟨H1.out.1.below hb, hq, H1.out.2.trans (hb.mono H1.out.2.size), hlt⟩
  clear hq hb y3 y4 y5 hlt
  go_wp2_with fail
  refine (merge_any H2.out.1 H2.out.2.1 (by have := H2.out.2.2.2; have := H2.out.2.1.Bp; omega) (by have := H2.out.2.2.2; have := H2.out.2.1.Bb; omega) h0 hn).mono ?_
  rintro e w3 ⟨rfl, hq, ho⟩
  have hb3 : Below W.heap.size W w3 := H2.out.2.2.1.trans (ho.low H2.out.1.Bb H2.out.2.2.1.size)
  have H3 : Hid (BF w3 W.heap.size q p b n c m k (ors n f g) ∧ Below W.heap.size W w3) := ⟨hq, hb3⟩
  have HR : Hid (∀ W', Below w3.heap.size w3 W' → Blk W' (w.heap.size + 1 + 1) #[.int .u64 0, .int .u64 0, .slice none 0 0] 27) := fun W' hb => ((hb3.trans (hb.mono hb3.size)).block _ H0.out.2.2.2.1.lt).trans H0.out.2.2.2.1
  clear hq ho hb3
  go_wp2_with fail
  have hr0 := HR.out w3 (Below.refl _ _)
  have hcz : ∀ W', Below w3.heap.size w3 W' → W'.cell? ⟨w.heap.size + 1 + 1, 0, none⟩ = some (.int .u64 0) ∧ W'.cell? ⟨w.heap.size + 1 + 1, 1, none⟩ = some (.int .u64 0) ∧ W'.cell? ⟨w.heap.size + 1 + 1, 2, none⟩ = some (.slice none 0 0) ∧ W'.frozen? ⟨w.heap.size + 1 + 1, 0, none⟩ = false ∧ W'.frozen? ⟨w.heap.size + 1 + 1, 1, none⟩ = false ∧ W'.frozen? ⟨w.heap.size + 1 + 1, 2, none⟩ = false := fun W' hb =>
    ⟨(HR.out W' hb).cell rfl, (HR.out W' hb).cell rfl, (HR.out W' hb).cell rfl, (HR.out W' hb).free 0, (HR.out W' hb).free 1, (HR.out W' hb).free 2⟩
  have HCZ := Lib.hid hcz
  obtain ⟨z0, z1, z2, z3, z4, z5⟩ := hcz w3 (Below.refl _ _)
  clear hcz hr0
  go_region_held3 (fun w' => w'.frozen? ⟨w.heap.size + 1 + 1, 0, none⟩ = false)
    (first | exact z3 | exact v3 | (simp; exact v3))
    (first
      | (go_at_call 19; refine (told_any (H3.out.1.below (Below.refl _ _).drew) h0 hn).mono ?_; rintro e w4 ⟨gg, cc, rfl, hg, hnc, hr, hb⟩; have H4 : Hid (Row w4 gg n (ors n f g) ∧ n ≤ cc ∧ w3.heap.size ≤ gg ∧ Below w3.heap.size w3 w4) := ⟨hr, hnc, hg, (Below.refl _ _).drew.trans hb⟩; clear hg hnc hr hb; obtain ⟨v0, v1, v2, v3, v4, v5⟩ := HCZ.out _ H4.out.2.2.2))
  have hr4 := HR.out w4 H4.out.2.2.2
  have hb4 : Below w.heap.size w w4 := H0.out.2.2.1.trans ((H3.out.2.trans (H4.out.2.2.2.mono H3.out.2.size)).mono H0.out.2.2.1.size)
  have s0 := ((hr4.set 0 (.int .u64 (m : Nat))).set 1 (.int .u64 (k : Nat))).set 2 (.slice (some ⟨gg, 0, none⟩) n cc)
  have hbl := ((hb4.setCell (p := ⟨w.heap.size + 1 + 1, 0, none⟩) (by simp; omega) (.int .u64 (m : Nat))).setCell (p := ⟨w.heap.size + 1 + 1, 1, none⟩) (by simp; omega) (.int .u64 (k : Nat))).setCell (p := ⟨w.heap.size + 1 + 1, 2, none⟩) (by simp; omega) (.slice (some ⟨gg, 0, none⟩) n cc)
  have d0 := s0.cell (i := 0) (v := .int .u64 (m : Nat)) (by simp)
  have d1 := s0.cell (i := 1) (v := .int .u64 (k : Nat)) (by simp)
  have d2 := s0.cell (i := 2) (v := .slice (some ⟨gg, 0, none⟩) n cc) (by simp)
  have hgw : gg ≠ w.heap.size + 1 + 1 := by have h1 := H4.out.2.2.1; have h2 := H0.out.2.2.2.1.lt; have h3 := H3.out.2.size; omega
  have hrow := ((H4.out.1.other hgw 0 (.int .u64 (m : Nat))).other hgw 1 (.int .u64 (k : Nat))).other hgw 2 (.slice (some ⟨gg, 0, none⟩) n cc)
  clear v0 v1 v2 v3 v4 v5 z0 z1 z2 z3 z4 z5
  go_wp2_with fail
  refine bodyPost_ret (v := .tuple #[.agg #[.int .u64 (m : Nat), .int .u64 (k : Nat), .slice (some ⟨gg, 0, none⟩) n cc], .bool true]) ?_ rfl ⟨⟨gg, cc, rfl, ⟨_, rfl, hrow.wds H4.out.2.1, H3.out.1.rs.small⟩, Nat.le_trans (Nat.le_trans H0.out.2.2.1.size H3.out.2.size) H4.out.2.2.1⟩, hbl⟩
  simp [results, Try.results16, go_sem, d0, d1, d2]
end Go.Proofs.Ytbkodehcjhpcmaa
