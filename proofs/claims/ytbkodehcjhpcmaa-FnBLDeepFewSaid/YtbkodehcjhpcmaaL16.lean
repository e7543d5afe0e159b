/- Filters made of words; data that is looked at; arguments opened. -/
import Derived.Test.YtbkodehcjhpcmaaL14
import Derived.Lib.SmallJoins
import Derived.ChangeSlices
import Derived.Deep.Slices
namespace Go.Proofs.Ytbkodehcjhpcmaa
open Go.ChangeShapes Go.WideShapes Go.ChangeAt Go.RowKit Go.Joins

theorem bloomFrom_any {w : World} {B b n c k : Nat} {f : Nat → Nat} (h : Row w b n f) (hc : n ≤ c) (hn : n ≤ 1000) (hs : ∀ i, f i < 18446744073709551616) (hB : B ≤ b) :
    Calls Try.prog 20 #[.slice (some ⟨b, 0, none⟩) n c, .int .u64 k] w fun e w' => ∃ q p, e = .returned (.pointer (some ⟨q, 0, none⟩)) ∧ BF w' B q p b n c (64 * n) k f ∧ Below w.heap.size w w' := by
  have HF := Lib.hid (fromM_any (m := 64 * n) (k := k) h hc hn hs hB)
  obtain ⟨l, hl⟩ : ∃ l, l = 64 * n := ⟨_, rfl⟩
  rw [← hl] at HF ⊢
  have hl1 : (n : Int) * 64 = (l : Int) := by omega
  have hl2 : l ≤ 64000 := by omega
  clear h hs hl
  go_enter Try.func20, Try.ntmps20
  go_wp2_with fail
  refine HF.out.mono ?_
  rintro e w1 ⟨q, p, rfl, hq, hb⟩
  have H1 : Hid (BF w1 B q p b n c l k f ∧ Below w.heap.size w w1) := ⟨hq, hb⟩
  clear hq hb
  go_wp2_with fail
  go_ret
  exact ⟨q, p, rfl, H1.out⟩
set_option maxRecDepth 100000 in
set_option maxHeartbeats 1000000 in
theorem BLFrom_any {w : World} {sl : Value} {l k n : Nat} {f : Nat → Nat} (h : Wds w sl n f) (hs : ∀ i, f i < 18446744073709551616) (h0 : 0 < n) (hn : n ≤ 1000) (hl : l = 64 * n) :
    Calls Try.prog 7 #[sl, .int .u64 k] w fun e w' => ∃ v, e = .returned v ∧ (∃ sl', v = .agg #[.int .u64 (l : Nat), .int .u64 (k : Nat), sl'] ∧ Fil w' v l k n f) ∧ Below w.heap.size w w' := by
  have HS := Lib.hid hs
  have HW := Lib.hid h
  have HL := Lib.hid hl
  clear hs h hl
  have b0 : Below w.heap.size w (w.alloc (.cells #[.int .u64 0, .int .u64 0, .slice none 0 0] 27)) := (Below.refl _ _).alloc (Nat.le_refl _) _
  have hR := Blk.new w #[.int .u64 0, .int .u64 0, .slice none 0 0] 27
  go_enter Try.func7, Try.ntmps7
  go_wp2_with fail
  generalize (w.alloc (.cells #[.int .u64 0, .int .u64 0, .slice none 0 0] 27)) = W at *
  have H0 : Hid (Wds W sl n f ∧ Below w.heap.size w W ∧ Blk W w.heap.size #[.int .u64 0, .int .u64 0, .slice none 0 0] 27) := ⟨HW.out.same b0, b0, hR⟩
  clear b0 hR
  refine (words_any H0.out.1 h0 hn).mono ?_
  rintro e w1 ⟨b, c, rfl, hb1, hc, hr, hb⟩
  have H1 : Hid (W.heap.size ≤ b ∧ n ≤ c ∧ Row w1 b n f ∧ Below W.heap.size W w1) := ⟨hb1, hc, hr, hb⟩
  clear hb1 hc hr hb
  go_wp2_with fail
  refine (bloomFrom_any (B := W.heap.size) (k := k) H1.out.2.2.1 H1.out.2.1 hn HS.out H1.out.1).mono ?_
  rintro e w2 ⟨q, p, rfl, hq, hb⟩
  have H2 : Hid (BF w2 W.heap.size q p b n c l k f ∧ Below W.heap.size W w2) := ⟨by rw [HL.out]; exact hq, H1.out.2.2.2.trans (hb.mono H1.out.2.2.2.size)⟩
  clear hq hb
  go_wp2_with fail
  refine (told_any H2.out.1 h0 hn).mono ?_
  rintro e w3 ⟨g, cc, rfl, hg, hnc, hr, hb⟩
  have hb3 : Below W.heap.size W w3 := H2.out.2.trans (hb.mono H2.out.2.size)
  have hB3 : Blk w3 w.heap.size #[.int .u64 0, .int .u64 0, .slice none 0 0] 27 := (hb3.block _ H0.out.2.2.lt).trans H0.out.2.2
  have H3 : Hid (Row w3 g n f ∧ n ≤ cc ∧ W.heap.size ≤ g ∧ Blk w3 w.heap.size #[.int .u64 0, .int .u64 0, .slice none 0 0] 27 ∧ Below w.heap.size w w3) := ⟨hr, hnc, Nat.le_trans H2.out.2.size hg, hB3, H0.out.2.1.trans (hb3.mono H0.out.2.1.size)⟩
  have g0 : w3.cell? ⟨w.heap.size, 0, none⟩ = some (.int .u64 0) := hB3.cell rfl
  have g1 : w3.cell? ⟨w.heap.size, 1, none⟩ = some (.int .u64 0) := hB3.cell rfl
  have g2 : w3.cell? ⟨w.heap.size, 2, none⟩ = some (.slice none 0 0) := hB3.cell rfl
  have e0 := hB3.free 0
  have e1 := hB3.free 1
  have e2 := hB3.free 2
  clear hr hnc hg hb hb3 hB3
  go_wp2_with fail
  have s0 := ((H3.out.2.2.2.1.set 0 (.int .u64 (l : Nat))).set 1 (.int .u64 (k : Nat))).set 2 (.slice (some ⟨g, 0, none⟩) n cc)
  have hbl := ((H3.out.2.2.2.2.setCell (p := ⟨w.heap.size, 0, none⟩) (Nat.le_refl _) (.int .u64 (l : Nat))).setCell (p := ⟨w.heap.size, 1, none⟩) (Nat.le_refl _) (.int .u64 (k : Nat))).setCell (p := ⟨w.heap.size, 2, none⟩) (Nat.le_refl _) (.slice (some ⟨g, 0, none⟩) n cc)
  have d0 := s0.cell (i := 0) (v := .int .u64 (l : Nat)) (by simp)
  have d1 := s0.cell (i := 1) (v := .int .u64 (k : Nat)) (by simp)
  have d2 := s0.cell (i := 2) (v := .slice (some ⟨g, 0, none⟩) n cc) (by simp)
  have hgw : g ≠ w.heap.size := by have h1 := H3.out.2.2.1; have h2 := H0.out.2.2.lt; omega
  have hrow := ((H3.out.1.other hgw 0 (.int .u64 (l : Nat))).other hgw 1 (.int .u64 (k : Nat))).other hgw 2 (.slice (some ⟨g, 0, none⟩) n cc)
  refine bodyPost_ret (v := .agg #[.int .u64 (l : Nat), .int .u64 (k : Nat), .slice (some ⟨g, 0, none⟩) n cc]) ?_ rfl ⟨_, rfl, ⟨_, rfl, ⟨_, rfl, hrow.wds H3.out.2.1, HS.out⟩⟩, hbl⟩
  simp [results, Try.results7, go_sem, d0, d1, d2]
set_option maxRecDepth 100000 in
set_option maxHeartbeats 1000000 in
theorem BLFromWithM_any {w : World} {sl : Value} {m k n : Nat} {f : Nat → Nat} (h : Wds w sl n f) (hs : ∀ i, f i < 18446744073709551616) (h0 : 0 < n) (hn : n ≤ 1000) :
    Calls Try.prog 8 #[sl, .int .u64 m, .int .u64 k] w fun e w' => ∃ v, e = .returned v ∧ (∃ sl', v = .agg #[.int .u64 (m : Nat), .int .u64 (k : Nat), sl'] ∧ Fil w' v m k n f) ∧ Below w.heap.size w w' := by
  have HS := Lib.hid hs
  have HW := Lib.hid h
  clear hs h
  have b0 : Below w.heap.size w (w.alloc (.cells #[.int .u64 0, .int .u64 0, .slice none 0 0] 27)) := (Below.refl _ _).alloc (Nat.le_refl _) _
  have hR := Blk.new w #[.int .u64 0, .int .u64 0, .slice none 0 0] 27
  go_enter Try.func8, Try.ntmps8
  go_wp2_with fail
  generalize (w.alloc (.cells #[.int .u64 0, .int .u64 0, .slice none 0 0] 27)) = W at *
  have H0 : Hid (Wds W sl n f ∧ Below w.heap.size w W ∧ Blk W w.heap.size #[.int .u64 0, .int .u64 0, .slice none 0 0] 27) := ⟨HW.out.same b0, b0, hR⟩
  clear b0 hR
  refine (words_any H0.out.1 h0 hn).mono ?_
  rintro e w1 ⟨b, c, rfl, hb1, hc, hr, hb⟩
  have H1 : Hid (W.heap.size ≤ b ∧ n ≤ c ∧ Row w1 b n f ∧ Below W.heap.size W w1) := ⟨hb1, hc, hr, hb⟩
  clear hb1 hc hr hb
  go_wp2_with fail
  refine (fromM_any (B := W.heap.size) (m := m) (k := k) H1.out.2.2.1 H1.out.2.1 hn HS.out H1.out.1).mono ?_
  rintro e w2 ⟨q, p, rfl, hq, hb⟩
  have H2 : Hid (BF w2 W.heap.size q p b n c m k f ∧ Below W.heap.size W w2) := ⟨hq, H1.out.2.2.2.trans (hb.mono H1.out.2.2.2.size)⟩
  clear hq hb
  go_wp2_with fail
  refine (told_any H2.out.1 h0 hn).mono ?_
  rintro e w3 ⟨g, cc, rfl, hg, hnc, hr, hb⟩
  have hb3 : Below W.heap.size W w3 := H2.out.2.trans (hb.mono H2.out.2.size)
  have hB3 : Blk w3 w.heap.size #[.int .u64 0, .int .u64 0, .slice none 0 0] 27 := (hb3.block _ H0.out.2.2.lt).trans H0.out.2.2
  have H3 : Hid (Row w3 g n f ∧ n ≤ cc ∧ W.heap.size ≤ g ∧ Blk w3 w.heap.size #[.int .u64 0, .int .u64 0, .slice none 0 0] 27 ∧ Below w.heap.size w w3) := ⟨hr, hnc, Nat.le_trans H2.out.2.size hg, hB3, H0.out.2.1.trans (hb3.mono H0.out.2.1.size)⟩
  have g0 : w3.cell? ⟨w.heap.size, 0, none⟩ = some (.int .u64 0) := hB3.cell rfl
  have g1 : w3.cell? ⟨w.heap.size, 1, none⟩ = some (.int .u64 0) := hB3.cell rfl
  have g2 : w3.cell? ⟨w.heap.size, 2, none⟩ = some (.slice none 0 0) := hB3.cell rfl
  have e0 := hB3.free 0
  have e1 := hB3.free 1
  have e2 := hB3.free 2
  clear hr hnc hg hb hb3 hB3
  go_wp2_with fail
  have s0 := ((H3.out.2.2.2.1.set 0 (.int .u64 (m : Nat))).set 1 (.int .u64 (k : Nat))).set 2 (.slice (some ⟨g, 0, none⟩) n cc)
  have hbl := ((H3.out.2.2.2.2.setCell (p := ⟨w.heap.size, 0, none⟩) (Nat.le_refl _) (.int .u64 (m : Nat))).setCell (p := ⟨w.heap.size, 1, none⟩) (Nat.le_refl _) (.int .u64 (k : Nat))).setCell (p := ⟨w.heap.size, 2, none⟩) (Nat.le_refl _) (.slice (some ⟨g, 0, none⟩) n cc)
  have d0 := s0.cell (i := 0) (v := .int .u64 (m : Nat)) (by simp)
  have d1 := s0.cell (i := 1) (v := .int .u64 (k : Nat)) (by simp)
  have d2 := s0.cell (i := 2) (v := .slice (some ⟨g, 0, none⟩) n cc) (by simp)
  have hgw : g ≠ w.heap.size := by have h1 := H3.out.2.2.1; have h2 := H0.out.2.2.lt; omega
  have hrow := ((H3.out.1.other hgw 0 (.int .u64 (m : Nat))).other hgw 1 (.int .u64 (k : Nat))).other hgw 2 (.slice (some ⟨g, 0, none⟩) n cc)
  refine bodyPost_ret (v := .agg #[.int .u64 (m : Nat), .int .u64 (k : Nat), .slice (some ⟨g, 0, none⟩) n cc]) ?_ rfl ⟨_, rfl, ⟨_, rfl, ⟨_, rfl, hrow.wds H3.out.2.1, HS.out⟩⟩, hbl⟩
  simp [results, Try.results8, go_sem, d0, d1, d2]

theorem blData_any {w : World} {so : Option Addr} {n c : Nat} {s : Nat → UInt8} (h : Data w so n c s) (hn : n ≤ 2147483647) :
    Calls Try.prog 11 #[.slice so n c] w fun e w' => e = .returned (.slice so (min n 80) c) ∧ w = w' := by
  have hnc : n ≤ c := by
    rcases h with ⟨h1, h2⟩ | ⟨_, _, _, h, _⟩
    · omega
    · exact h
  by_cases h80 : n ≤ 80
  · rw [Nat.min_eq_left h80]
    clear h
    go_enter Try.func11, Try.ntmps11
    go_wp2_with fail
    go_ret
    exact ⟨rfl, rfl⟩
  · rw [Nat.min_eq_right (by omega)]
    have i1 : (80 : Int) ≤ (c : Int) := by omega
    clear h
    go_enter Try.func11, Try.ntmps11
    go_wp2_with fail
    go_ret
    exact ⟨rfl, rfl⟩
theorem Data.cut {w : World} {so : Option Addr} {n c : Nat} {s : Nat → UInt8} (h : Data w so n c s) : Data w so (min n 80) c s := by
  rcases h with ⟨h2, h3⟩ | ⟨b, o, h1, h2, h3⟩
  · exact Or.inl ⟨by omega, h3⟩
  · exact Or.inr ⟨b, o, h1, by omega, fun i hi => h3 i (by omega)⟩

theorem cells_u64 : Try.prog.cellsOf 25 = 1 := by kernel_rfl
theorem cells_u8 : Try.prog.cellsOf 5 = 1 := by kernel_rfl
theorem open_row {H : Type} {P : Program} {enc : TypeId × Value → H} {w : World} {fuel : Nat} {held : Bool} {t e : TypeId} {K : IntKind} {v : Value} {y : DataW H × List MemPlace} (ht : P.underlying t = some (.slice e)) (he : P.underlying e = some (.int K)) (hc : P.cellsOf e = 1)
    (h : DataW.trod enc P w 0 (fun _ => true) held fuel t [v] = some y) : ∃ so n cp, v = .slice so n cp ∧ n ≤ cp ∧ ((so = none ∧ n = 0 ∧ cp = 0) ∨ ∃ b o, so = some ⟨b, o, none⟩ ∧ ∀ i, i < n → ∃ z, w.cell? ⟨b, o + i, none⟩ = some (.int K z) ∧ (Lit.int K z).wf = true) ∨
      ∃ a n cp, v = .slice (some a) n cp ∧ n = 0 ∧ n ≤ cp := by
  rcases open_ints ht he hc h with ⟨h1, _⟩ | ⟨a, len, cap, zs, h1, _, h2, h3, h4, _, h6, h7⟩
  · simp at h1
    exact ⟨none, 0, 0, Or.inl ⟨h1, Nat.le_refl _, Or.inl ⟨rfl, rfl, rfl⟩⟩⟩
  · simp at h1
    by_cases hpos : 0 < len
    · have hz : len ≤ zs.length := by rw [h4]; split <;> omega
      have hc0 := h6 0 (by omega)
      obtain ⟨b, o, s⟩ := a
      have hs : s = none := by simpa [Addr.add] using World.cell?_spot hc0
      subst hs
      refine ⟨_, len, cap, Or.inl ⟨h1, h2, Or.inr ⟨b, o, rfl, fun i hi => ⟨zs.getD i 0, ?_, h7 _ ?_⟩⟩⟩⟩
      · have h8 := h6 i (by omega)
        cases i with
        | zero => simpa [Addr.add] using h8
        | succ i => simpa [Addr.add] using h8
      · rw [List.getD_eq_getElem?_getD, List.getElem?_eq_getElem (by omega)]
        simp
    · exact ⟨some a, 0, 0, Or.inr ⟨a, len, cap, h1, by omega, h2⟩⟩
end Go.Proofs.Ytbkodehcjhpcmaa
