/- A filter of plain data, and plain data of a filter. -/
import Derived.Test.YtbkodehcjhpcmaaL10
import Derived.Deep.RegionHeld3
namespace Go.Proofs.Ytbkodehcjhpcmaa
open Go.RowKit

/-- Plain data of a filter. -/
def Fil (w : World) (v : Value) (m k n : Nat) (f : Nat → Nat) : Prop := ∃ sl, v = .agg #[.int .u64 (m : Nat), .int .u64 (k : Nat), sl] ∧ Wds w sl n f ∧ ∀ i, f i < 18446744073709551616
theorem Fil.same {w w' : World} {v : Value} {m k n : Nat} {f : Nat → Nat} (h : Fil w v m k n f) (hb : Below w.heap.size w w') : Fil w' v m k n f := by
  obtain ⟨sl, h1, h2, h3⟩ := h
  exact ⟨sl, h1, h2.same hb, h3⟩

set_option maxRecDepth 100000 in
set_option maxHeartbeats 1000000 in
theorem filter_any {w : World} {v : Value} {m k n : Nat} {f : Nat → Nat} (h : Fil w v m k n f) (h0 : 0 < n) (hn : n ≤ 1000) :
    Calls Try.prog 23 #[v] w fun e w' => ∃ q p b c, e = .returned (.pointer (some ⟨q, 0, none⟩)) ∧ BF w' w.heap.size q p b n c m k f ∧ Below w.heap.size w w' := by
  obtain ⟨sl, rfl, hw, hs⟩ := h
  have HW := Lib.hid hw
  have HSm := Lib.hid hs
  clear hw hs
  obtain ⟨b, o, c, hsl, hc, _⟩ := HW.out
  subst hsl
  clear hc
  go_enter Try.func23, Try.ntmps23
  go_wp2_with fail
  have hB0 := Blk.new w #[.int .u64 (m : Nat), .int .u64 (k : Nat), .slice (some ⟨b, o, none⟩) n c] 27
  have b0 : Below w.heap.size w (w.alloc (.cells #[.int .u64 (m : Nat), .int .u64 (k : Nat), .slice (some ⟨b, o, none⟩) n c] 27)) := (Below.refl _ _).alloc (Nat.le_refl _) _
  generalize (w.alloc (.cells #[.int .u64 (m : Nat), .int .u64 (k : Nat), .slice (some ⟨b, o, none⟩) n c] 27)) = W at *
  have hc0 : ∀ W', Below W.heap.size W W' → W'.cell? ⟨w.heap.size, 0, none⟩ = some (.int .u64 (m : Nat)) ∧ W'.cell? ⟨w.heap.size, 1, none⟩ = some (.int .u64 (k : Nat)) ∧ W'.cell? ⟨w.heap.size, 2, none⟩ = some (.slice (some ⟨b, o, none⟩) n c) := fun W' hb =>
    ⟨(hb.cell (by have := hB0.lt; simp; omega)).trans (hB0.cell rfl), (hb.cell (by have := hB0.lt; simp; omega)).trans (hB0.cell rfl), (hb.cell (by have := hB0.lt; simp; omega)).trans (hB0.cell rfl)⟩
  have HC := Lib.hid hc0
  have HB0 := Lib.hid b0
  obtain ⟨y0, y1, y2⟩ := hc0 W (Below.refl _ _)
  clear hc0 b0 hB0
  go_region_held3 (fun w' => w'.cell? ⟨w.heap.size, 0, none⟩ = some (.int .u64 (m : Nat)) ∧ w'.cell? ⟨w.heap.size, 1, none⟩ = some (.int .u64 (k : Nat)) ∧ w'.cell? ⟨w.heap.size, 2, none⟩ = some (.slice (some ⟨b, o, none⟩) n c))
    (first | exact ⟨y0, y1, y2⟩ | exact HC.out _ H2.out.2 | exact HC.out _ H1.out.2.2.2)
    (first
      | (have := H1; go_at_call 22; refine (fromM_any (B := w.heap.size) (m := m) (k := k) H1.out.2.2.1 H1.out.2.1 hn HSm.out (Nat.le_trans HB0.out.size H1.out.1)).mono ?_; rintro e w2 ⟨q, p, rfl, hq, hb⟩; have H2 : Hid (BF w2 w.heap.size q p g n cc m k f ∧ Below W.heap.size W w2) := ⟨hq, H1.out.2.2.2.trans (hb.mono H1.out.2.2.2.size)⟩; clear hq hb)
      | (go_at_call 21; refine (words_any (HW.out.same (HB0.out.trans ((Below.refl W.heap.size W).drew.mono HB0.out.size))) h0 hn).mono ?_; rintro e w1 ⟨g, cc, rfl, hg, hnc, hr, hb⟩; have H1 : Hid (W.heap.size ≤ g ∧ n ≤ cc ∧ Row w1 g n f ∧ Below W.heap.size W w1) := ⟨hg, hnc, hr, (Below.refl _ _).drew.trans hb⟩; clear hg hnc hr hb))
  go_wp2_with fail
  go_ret
  exact ⟨q, p, g, cc, rfl, H2.out.1, HB0.out.trans (H2.out.2.mono HB0.out.size)⟩

section
variable {w : World} {B q p b n c m k : Nat} {f : Nat → Nat}
theorem bcap_any (h : BF w B q p b n c m k f) : Calls Try.prog 34 #[.pointer (some ⟨q, 0, none⟩)] w fun e w' => e = .returned (.int .u64 (m : Nat)) ∧ w = w' := by
  have x := h.c0
  clear h
  go_enter Try.func34, Try.ntmps34
  go_wp2_with fail
  go_ret
  exact ⟨rfl, rfl⟩
theorem bk_any (h : BF w B q p b n c m k f) : Calls Try.prog 35 #[.pointer (some ⟨q, 0, none⟩)] w fun e w' => e = .returned (.int .u64 (k : Nat)) ∧ w = w' := by
  have x := h.c1
  clear h
  go_enter Try.func35, Try.ntmps35
  go_wp2_with fail
  go_ret
  exact ⟨rfl, rfl⟩
theorem bset_any (h : BF w B q p b n c m k f) : Calls Try.prog 36 #[.pointer (some ⟨q, 0, none⟩)] w fun e w' => e = .returned (.pointer (some ⟨p, 0, none⟩)) ∧ w = w' := by
  have x := h.c2
  clear h
  go_enter Try.func36, Try.ntmps36
  go_wp2_with fail
  go_ret
  exact ⟨rfl, rfl⟩
theorem bwords_any (h : RS w p b n c f) : Calls Try.prog 37 #[.pointer (some ⟨p, 0, none⟩)] w fun e w' => e = .returned (.slice (some ⟨b, 0, none⟩) n c) ∧ w = w' := by
  have x := h.set_cell
  clear h
  go_enter Try.func37, Try.ntmps37
  go_wp2_with fail
  go_ret
  exact ⟨rfl, rfl⟩
set_option maxRecDepth 100000 in
set_option maxHeartbeats 1000000 in
theorem told_any (h : BF w B q p b n c m k f) (h0 : 0 < n) (hn : n ≤ 1000) : Calls Try.prog 19 #[.pointer (some ⟨q, 0, none⟩)] w fun e w' => ∃ g cc, e = .returned (.agg #[.int .u64 (m : Nat), .int .u64 (k : Nat), .slice (some ⟨g, 0, none⟩) n cc]) ∧ w.heap.size ≤ g ∧ n ≤ cc ∧ Row w' g n f ∧ Below w.heap.size w w' := by
  have b0 : Below w.heap.size w (w.alloc (.cells #[.int .u64 0, .int .u64 0, .slice none 0 0] 27)) := (Below.refl _ _).alloc (Nat.le_refl _) _
  have hN := Blk.new w #[.int .u64 0, .int .u64 0, .slice none 0 0] 27
  have H := Lib.hid h
  clear h
  go_enter Try.func19, Try.ntmps19
  go_wp2_with fail
  generalize (w.alloc (.cells #[.int .u64 0, .int .u64 0, .slice none 0 0] 27)) = W at *
  have H0 : Hid (BF W B q p b n c m k f ∧ Blk W w.heap.size #[.int .u64 0, .int .u64 0, .slice none 0 0] 27 ∧ Below w.heap.size w W) := ⟨H.out.below b0, hN, b0⟩
  clear b0 hN
  refine (bcap_any H0.out.1).mono ?_; rintro e w' ⟨rfl, rfl⟩
  go_wp2_with fail
  refine (bk_any H0.out.1).mono ?_; rintro e w' ⟨rfl, rfl⟩
  go_wp2_with fail
  refine (bset_any H0.out.1).mono ?_; rintro e w' ⟨rfl, rfl⟩
  go_wp2_with fail
  refine (bwords_any H0.out.1.rs).mono ?_; rintro e w' ⟨rfl, rfl⟩
  go_wp2_with fail
  have hrow : Row W b n f := by obtain ⟨cur, T, h1, h2⟩ := H0.out.1.rs.row; exact ⟨cur, T, h1, h2⟩
  refine (words_any (hrow.wds H0.out.1.rs.nc) h0 hn).mono ?_
  rintro e w1 ⟨g, cc, rfl, hg, hnc, hr, hb⟩
  have hB1 : Blk w1 w.heap.size #[.int .u64 0, .int .u64 0, .slice none 0 0] 27 := (hb.block _ H0.out.2.1.lt).trans H0.out.2.1
  have H1 : Hid (Row w1 g n f ∧ n ≤ cc ∧ W.heap.size ≤ g ∧ Blk w1 w.heap.size #[.int .u64 0, .int .u64 0, .slice none 0 0] 27 ∧ Below w.heap.size w w1) := ⟨hr, hnc, hg, hB1, H0.out.2.2.trans (hb.mono H0.out.2.2.size)⟩
  have g0 : w1.cell? ⟨w.heap.size, 0, none⟩ = some (.int .u64 0) := hB1.cell rfl
  have g1 : w1.cell? ⟨w.heap.size, 1, none⟩ = some (.int .u64 0) := hB1.cell rfl
  have g2 : w1.cell? ⟨w.heap.size, 2, none⟩ = some (.slice none 0 0) := hB1.cell rfl
  have e0 := hB1.free 0
  have e1 := hB1.free 1
  have e2 := hB1.free 2
  clear hr hnc hg hb hrow hB1
  go_wp2_with fail
  have s0 := ((H1.out.2.2.2.1.set 0 (.int .u64 (m : Nat))).set 1 (.int .u64 (k : Nat))).set 2 (.slice (some ⟨g, 0, none⟩) n cc)
  have hbl := ((H1.out.2.2.2.2.setCell (p := ⟨w.heap.size, 0, none⟩) (Nat.le_refl _) (.int .u64 (m : Nat))).setCell (p := ⟨w.heap.size, 1, none⟩) (Nat.le_refl _) (.int .u64 (k : Nat))).setCell (p := ⟨w.heap.size, 2, none⟩) (Nat.le_refl _) (.slice (some ⟨g, 0, none⟩) n cc)
  have d0 := s0.cell (i := 0) (v := .int .u64 (m : Nat)) (by simp)
  have d1 := s0.cell (i := 1) (v := .int .u64 (k : Nat)) (by simp)
  have d2 := s0.cell (i := 2) (v := .slice (some ⟨g, 0, none⟩) n cc) (by simp)
  have hgw : g ≠ w.heap.size := by have := H1.out.2.2.1; have h2 := H0.out.2.1.lt; omega
  refine bodyPost_ret (v := .agg #[.int .u64 (m : Nat), .int .u64 (k : Nat), .slice (some ⟨g, 0, none⟩) n cc]) ?_ rfl ⟨g, cc, rfl, ?_, H1.out.2.1, ?_, hbl⟩
  · simp [results, Try.results19, go_sem, d0, d1, d2]
  · have h1 := H1.out.2.2.1
    have h2 := H0.out.2.2.size
    omega
  · obtain ⟨cur, T, h1, h2⟩ := H1.out.1
    have : Row (((w1.setCell ⟨w.heap.size, 0, none⟩ (.int .u64 (m : Nat))).setCell ⟨w.heap.size, 1, none⟩ (.int .u64 (k : Nat))).setCell ⟨w.heap.size, 2, none⟩ (.slice (some ⟨g, 0, none⟩) n cc)) g n f :=
      ⟨cur, T, ((h1.other (fun e => hgw e.symm) _).other (fun e => hgw e.symm) _).other (fun e => hgw e.symm) _, h2⟩
    exact this
end
end Go.Proofs.Ytbkodehcjhpcmaa
