/- Walks of the bitset's operations in place. -/
import Derived.Test.YtpmnpaannbhoeaaBsC
namespace Go.Proofs.Ytpmnpaannbhoeaa
open Go.RowKit

theorem extend_words {w : World} {p b n c len : Nat} {f : Nat → Nat} (h : BSet w p b n c len f) (i : Nat) (hi : len ≤ i) (hl : i < 100000) (hcm : c ≤ 200000) :
    Calls Try.prog 79 #[.pointer (some ⟨p, 0, none⟩), .int .u64 i] w fun e w' => e = .returned (.tuple #[]) ∧
      ∃ b' c' g, BSet w' p b' (wn (i + 1)) c' (i + 1) g ∧ (∀ k, k < wn (i + 1) → g k = if k < n then f k else 0) ∧ Only [p, b] w w' ∧ (b' = b ∨ b' = w.heap.size) ∧ c' ≤ 200000 := by
  have hn : n ≤ wn (i + 1) := by have := h.n_eq; unfold wn at *; omega
  by_cases hc : wn (i + 1) ≤ c
  · refine (extend_room h i hi (by omega) hc (by omega)).mono ?_
    rintro e w' ⟨rfl, g1, g2⟩
    refine ⟨rfl, b, c, _, g1, fun k hk => ?_, g2, Or.inl rfl, hcm⟩
    unfold zeroFrom
    by_cases hkn : k < n
    · rw [if_neg (by omega), if_pos hkn]
    · rw [if_pos (by omega), if_neg hkn]
  · refine (extend_new h i hi (by omega) (by omega)).mono ?_
    rintro e w' ⟨rfl, g1, g2⟩
    refine ⟨rfl, _, _, _, g1, fun k hk => ?_, g2.mono (by simp +contextual), Or.inr rfl, by unfold wn; omega⟩
    unfold put
    by_cases hkn : k < n
    · rw [if_pos (by simp; exact hkn), if_pos hkn]
      simp [hkn]
    · rw [if_neg (by simp; omega), if_neg hkn]

theorem BDirty.small' {w : World} {p b n c len : Nat} {f : Nat → Nat} (h : BDirty w p b n c len f) : ∀ i, f i < 18446744073709551616 := h.small

/-- Two bitsets in memory that share no block. -/
def Apart (px bx py bY : Nat) : Prop := py ≠ px ∧ py ≠ bx ∧ bY ≠ px ∧ bY ≠ bx

def fold2 (W : Nat → Nat → Nat) (l : Nat) (f g : Nat → Nat) : Nat → Nat := fun i => if i < l then W (f i) (g i) else g i

theorem upto_at (k : Nat) (F g : Nat → Nat) : upto k F g k = g k := by simp [upto]
theorem upto_swap (n : Nat) (F G g : Nat → Nat) (h : ∀ i, i < n → F i = G i) : upto n F g = upto n G g := by
  funext i
  unfold upto
  by_cases hi : i < n
  · rw [if_pos hi, if_pos hi, h i hi]
  · rw [if_neg hi, if_neg hi]

set_option maxRecDepth 100000 in
set_option maxHeartbeats 1000000 in
theorem ipu_A1 {w : World} {px bx nx cx lx py bY ny cy ly : Nat} {fx fy : Nat → Nat} (hx : BSet w px bx nx cx lx fx) (hy : BSet w py bY ny cy ly fy) (hap : Apart px bx py bY) (hlt : lx < ly) (hn : nx < ny) (hpos : 0 < nx) (hl : ly ≤ 100000) (hlx : lx ≤ 100000) (hcx : cx ≤ 200000) :
    Calls Try.prog 66 #[.pointer (some ⟨px, 0, none⟩), .pointer (some ⟨py, 0, none⟩)] w fun e w' => e = .returned (.tuple #[]) ∧ ∃ b2 c2 g, BSet w' px b2 ny c2 ly g ∧ (∀ i, i < ny → g i = if i < nx then wOr (fx i) (fy i) else fy i) ∧ Only [px, bx] w w' ∧ (b2 = bx ∨ w.heap.size ≤ b2) ∧ c2 ≤ 200000 := by
  have x0 := hx.len_cell
  have x1 := hx.set_cell
  have y0 := hy.len_cell
  have y1 := hy.set_cell
  have hnx : nx ≤ 20000 := by rw [hx.n_eq]; unfold wn; omega
  have hny : ny ≤ 20000 := by rw [hy.n_eq]; unfold wn; omega
  have HX := Lib.hid hx
  have HY := Lib.hid hy
  have HP := Lib.hid hap
  clear hx hy hap
  go_enter Try.func66, Try.ntmps66
  go_wp2_with fail
  refine (panicIfNull_any _ _).mono ?_; rintro e w' ⟨rfl, rfl⟩
  go_wp2_with fail
  refine (panicIfNull_any _ _).mono ?_; rintro e w' ⟨rfl, rfl⟩
  go_wp2_with fail
  refine (wordCount_any HY.out.dirty (by omega)).mono ?_; rintro e w' ⟨rfl, rfl⟩
  go_wp2_with fail
  refine (wordCount_any HX.out.dirty (by omega)).mono ?_; rintro e w' ⟨rfl, rfl⟩
  go_wp2_with fail
  refine (wordCount_any HX.out.dirty (by omega)).mono ?_; rintro e w' ⟨rfl, rfl⟩
  go_wp2_with fail
  have g1 : decide (0 < ly) = true := by apply decide_eq_true; omega
  obtain ⟨m, hm⟩ : ∃ m : Nat, m = ly - 1 := ⟨_, rfl⟩
  have g2 : (ly : Int) - 1 = (m : Int) := by omega
  have g3 : lx ≤ m := by omega
  have g4 : decide (lx ≤ m) = true := decide_eq_true g3
  have HM := Lib.hid hm
  clear hm
  go_quiet (fail)
  go_wp2_with fail
  refine (extend_words (HX.out.drewN nq) m g3 (by have := HM.out; omega) hcx).mono ?_
  rintro e w2 ⟨rfl, b2, c2, g0, hB, hg, ho, hb, hc⟩
  have hm1 : m + 1 = ly := by have := HM.out; omega
  rw [hm1, ← HY.out.n_eq] at hB
  rw [hm1, ← HY.out.n_eq] at hg
  clear hm1
  have HG := Lib.hid hg
  have HC := Lib.hid hc
  have hO : Only [px, bx] w w2 := ((Only.refl _ _).drewN nq).trans ho
  have HB : Hid (b2 = bx ∨ b2 = w.heap.size) := hb
  have hP2 : Apart px b2 py bY := by
    have h1 := HP.out
    have h2 := HY.out.plt
    have h3 := HY.out.blt
    unfold Apart at *
    rcases hb with rfl | h
    · exact h1
    · have : b2 = w.heap.size := h
      omega
  have HP2 := Lib.hid hP2
  have HY2 := Lib.hid (HY.out.only hO (by have := HP.out; unfold Apart at this; simp; omega) (by have := HP.out; unfold Apart at this; simp; omega))
  have HX2 := Lib.hid hB
  have HO := Lib.hid hO
  clear hg hc ho hb hO hP2 hB x0 x1 y0 y1
  have z1 := HX2.out.set_cell
  have z2 := HY2.out.set_cell
  obtain ⟨j, hj⟩ : ∃ j : Nat, (j : Int) = (nx : Int) - 1 := ⟨nx - 1, by omega⟩
  have j1 : (nx : Int) - 1 = (j : Int) := hj.symm
  have j2 : j < ny := by omega
  have j3 : j < ny := by omega
  have z3 := HX2.out.word j3
  have z4 := HY2.out.word j2
  clear hj
  go_wp2_with fail
  go_quiet (fail)
  go_wp2_with fail
  clear z1 z2 z3 z4 j1 j2 j3
  go_loopw [7] (fun iv wr => ∃ k : Nat, k ≤ nx ∧ iv = .int .i64 k ∧ Hid (BDirty wr px b2 ny c2 ly (upto k (fun i => wOr (g0 i) (fy i)) g0) ∧ Only [px, b2] w2 wr)) (fun iv _ => nx - (intOf iv).toNat)
  case atStart => exact ⟨0, by omega, rfl, by rw [upto_zero]; exact HX2.out.dirty.drewN _, (Only.refl _ _).drewN _⟩
  case round =>
    obtain ⟨k, hk, rfl, hR⟩ := hrel
    have HR : Hid (BDirty wr px b2 ny c2 ly (upto k (fun i => wOr (g0 i) (fy i)) g0) ∧ Only [px, b2] w2 wr) := hR
    clear hR
    have HY3 := Lib.hid (HY2.out.only HR.out.2 (by have := HP2.out; unfold Apart at this; simp; omega) (by have := HP2.out; unfold Apart at this; simp; omega))
    by_cases hkn : k < nx
    · have c1 := HY3.out.word (i := k) (by omega)
      have c2 : wr.cell? ⟨b2, k, none⟩ = some (.int .u64 (g0 k)) := by
        have := HR.out.1.word (i := k) (by omega)
        rwa [upto_at] at this
      have c3 := HR.out.1.wd.free k
      go_wp2_with fail
      have k0 : (0 : Int) ≤ (k : Int) := by omega
      have k1 : (k : Int) < (ny : Int) := by omega
      have k2 : (k : Int) < (ny : Int) := by omega
      refine wp_region_still_tail 10 (by kernel_rfl) (by kernel_rfl) ?_
      simp only [List.take_succ_cons, List.take_zero, List.drop_succ_cons, List.drop_zero]
      repeat still_step
      refine wpStill_nil ?_
      change wpList _ _ _ _ _ wr.drew
      have HE := Lib.hid (wOr_I (g0 k) (fy k) (HX2.out.small _) (HY2.out.small _))
      rw [HE.out]
      clear k0 k1 k2
      go_wp2_with fail
      go_roundw
      case rel =>
        refine ⟨k + 1, by omega, by go_num, ?_, (HR.out.2.drewN 1).setCell (Or.inl (by simp)) _⟩
        have := (HR.out.1.drewN 1).store k _ (wOr_lt (HX2.out.small k) (HY2.out.small k))
        rwa [upto_step k (fun i => wOr (g0 i) (fy i)) g0] at this
      case measure => simp [intOf]; omega
    · have hkk : k = nx := by omega
      have HK := Lib.hid hkk
      clear hkk
      have c1 := HY3.out.set_cell
      have HR2 : Hid (BDirty wr px b2 ny c2 ly (upto nx (fun i => wOr (g0 i) (fy i)) g0) ∧ Only [px, b2] w2 wr) := by have := HR.out; rwa [HK.out] at this
      go_wp2_with fail
      clear c1
      go_loopw [8] (fun iv wr => ∃ k : Nat, nx ≤ k ∧ k ≤ ny ∧ iv = .int .i64 k ∧ Hid (BDirty wr px b2 ny c2 ly (upto k (fun i => if i < nx then wOr (g0 i) (fy i) else fy i) g0) ∧ Only [px, b2] w2 wr)) (fun iv _ => ny - (intOf iv).toNat)
      case atStart => exact ⟨nx, Nat.le_refl _, by omega, rfl, by rw [upto_swap nx (fun i => if i < nx then wOr (g0 i) (fy i) else fy i) (fun i => wOr (g0 i) (fy i)) g0 (fun i hi => if_pos hi)]; exact HR2.out.1, HR2.out.2⟩
      case round =>
        obtain ⟨k, hkx, hk, rfl, hR⟩ := hrel
        have HR : Hid (BDirty wr px b2 ny c2 ly (upto k (fun i => if i < nx then wOr (g0 i) (fy i) else fy i) g0) ∧ Only [px, b2] w2 wr) := hR
        clear hR
        have HY4 := Lib.hid (HY2.out.only HR.out.2 (by have := HP2.out; unfold Apart at this; simp; omega) (by have := HP2.out; unfold Apart at this; simp; omega))
        have d1 := HY4.out.set_cell
        by_cases hkn : k < ny
        · have d2 := HY4.out.word hkn
          have d3 := HR.out.1.set_cell
          have d5 := HR.out.1.word (i := k) (by omega)
          have d4 := HR.out.1.wd.free k
          go_wp2_with fail
          have k0 : (0 : Int) ≤ (k : Int) := by omega
          have k1 : (k : Int) < (ny : Int) := by omega
          refine wp_region_still_tail 13 (by kernel_rfl) (by kernel_rfl) ?_
          simp only [List.take_succ_cons, List.take_zero, List.drop_succ_cons, List.drop_zero]
          repeat still_step
          refine wpStill_nil ?_
          change wpList _ _ _ _ _ wr.drew
          clear k0 k1
          go_wp2_with fail
          go_roundw
          case rel =>
            refine ⟨k + 1, by omega, by omega, by go_num, ?_, (HR.out.2.drewN 1).setCell (Or.inl (by simp)) _⟩
            have := (HR.out.1.drewN 1).store k _ (HY2.out.small k)
            have h3 : fy k = (fun i => if i < nx then wOr (g0 i) (fy i) else fy i) k := (if_neg (by omega)).symm
            rw [h3, upto_step k (fun i => if i < nx then wOr (g0 i) (fy i) else fy i) g0] at this
            rw [show (fy k : Int) = (((fun i => if i < nx then wOr (g0 i) (fy i) else fy i) k : Nat) : Int) from by rw [← h3]]
            exact this
          case measure => simp [intOf]; omega
        · have hkk : k = ny := by omega
          have HK := Lib.hid hkk
          clear hkk
          go_wp2_with fail
          go_end0
          have hd := HR.out.1
          rw [HK.out] at hd
          refine ⟨rfl, b2, c2, _, hd.whole (fun i h1 h2 => ?_), fun i hi => ?_, ?_, ?_, HC.out⟩
          · unfold upto
            rw [if_pos (show i / 64 < ny by omega)]
            have h3 := HX2.out.clean i h1 h2
            have h4 := HY2.out.clean i h1 h2
            show (((fun i => if i < nx then wOr (g0 i) (fy i) else fy i)) (i / 64)).testBit (i % 64) = false
            try simp only []
            split
            · rw [wOr_tb, h3, h4]; rfl
            · exact h4
          · unfold upto
            rw [if_pos hi]
            have h3 := HG.out i hi
            show ((fun i => if i < nx then wOr (g0 i) (fy i) else fy i)) i = _
            try simp only []
            by_cases hin : i < nx
            · rw [if_pos hin] at h3
              rw [if_pos hin, if_pos hin, h3]
            · rw [if_neg hin, if_neg hin]
          · refine Only.new (B := w.heap.size) HO.out (HR.out.2.mono fun k _ hk => ?_) (Nat.le_refl _)
            have := HB.out
            simp at hk ⊢
            omega
          · have := HB.out
            omega

set_option maxRecDepth 100000 in
set_option maxHeartbeats 1000000 in
theorem ips_A1 {w : World} {px bx nx cx lx py bY ny cy ly : Nat} {fx fy : Nat → Nat} (hx : BSet w px bx nx cx lx fx) (hy : BSet w py bY ny cy ly fy) (hap : Apart px bx py bY) (hlt : lx < ly) (hn : nx < ny) (hpos : 0 < nx) (hl : ly ≤ 100000) (hlx : lx ≤ 100000) (hcx : cx ≤ 200000) :
    Calls Try.prog 69 #[.pointer (some ⟨px, 0, none⟩), .pointer (some ⟨py, 0, none⟩)] w fun e w' => e = .returned (.tuple #[]) ∧ ∃ b2 c2 g, BSet w' px b2 ny c2 ly g ∧ (∀ i, i < ny → g i = if i < nx then wXor (fx i) (fy i) else fy i) ∧ Only [px, bx] w w' ∧ (b2 = bx ∨ w.heap.size ≤ b2) ∧ c2 ≤ 200000 := by
  have x0 := hx.len_cell
  have x1 := hx.set_cell
  have y0 := hy.len_cell
  have y1 := hy.set_cell
  have hnx : nx ≤ 20000 := by rw [hx.n_eq]; unfold wn; omega
  have hny : ny ≤ 20000 := by rw [hy.n_eq]; unfold wn; omega
  have HX := Lib.hid hx
  have HY := Lib.hid hy
  have HP := Lib.hid hap
  clear hx hy hap
  go_enter Try.func69, Try.ntmps69
  go_wp2_with fail
  refine (panicIfNull_any _ _).mono ?_; rintro e w' ⟨rfl, rfl⟩
  go_wp2_with fail
  refine (panicIfNull_any _ _).mono ?_; rintro e w' ⟨rfl, rfl⟩
  go_wp2_with fail
  refine (wordCount_any HY.out.dirty (by omega)).mono ?_; rintro e w' ⟨rfl, rfl⟩
  go_wp2_with fail
  refine (wordCount_any HX.out.dirty (by omega)).mono ?_; rintro e w' ⟨rfl, rfl⟩
  go_wp2_with fail
  refine (wordCount_any HX.out.dirty (by omega)).mono ?_; rintro e w' ⟨rfl, rfl⟩
  go_wp2_with fail
  have g1 : decide (0 < ly) = true := by apply decide_eq_true; omega
  obtain ⟨m, hm⟩ : ∃ m : Nat, m = ly - 1 := ⟨_, rfl⟩
  have g2 : (ly : Int) - 1 = (m : Int) := by omega
  have g3 : lx ≤ m := by omega
  have g4 : decide (lx ≤ m) = true := decide_eq_true g3
  have HM := Lib.hid hm
  clear hm
  go_quiet (fail)
  go_wp2_with fail
  refine (extend_words (HX.out.drewN nq) m g3 (by have := HM.out; omega) hcx).mono ?_
  rintro e w2 ⟨rfl, b2, c2, g0, hB, hg, ho, hb, hc⟩
  have hm1 : m + 1 = ly := by have := HM.out; omega
  rw [hm1, ← HY.out.n_eq] at hB
  rw [hm1, ← HY.out.n_eq] at hg
  clear hm1
  have HG := Lib.hid hg
  have HC := Lib.hid hc
  have hO : Only [px, bx] w w2 := ((Only.refl _ _).drewN nq).trans ho
  have HB : Hid (b2 = bx ∨ b2 = w.heap.size) := hb
  have hP2 : Apart px b2 py bY := by
    have h1 := HP.out
    have h2 := HY.out.plt
    have h3 := HY.out.blt
    unfold Apart at *
    rcases hb with rfl | h
    · exact h1
    · have : b2 = w.heap.size := h
      omega
  have HP2 := Lib.hid hP2
  have HY2 := Lib.hid (HY.out.only hO (by have := HP.out; unfold Apart at this; simp; omega) (by have := HP.out; unfold Apart at this; simp; omega))
  have HX2 := Lib.hid hB
  have HO := Lib.hid hO
  clear hg hc ho hb hO hP2 hB x0 x1 y0 y1
  have z1 := HX2.out.set_cell
  have z2 := HY2.out.set_cell
  obtain ⟨j, hj⟩ : ∃ j : Nat, (j : Int) = (nx : Int) - 1 := ⟨nx - 1, by omega⟩
  have j1 : (nx : Int) - 1 = (j : Int) := hj.symm
  have j2 : j < ny := by omega
  have j3 : j < ny := by omega
  have z3 := HX2.out.word j3
  have z4 := HY2.out.word j2
  clear hj
  go_wp2_with fail
  go_quiet (fail)
  go_wp2_with fail
  clear z1 z2 z3 z4 j1 j2 j3
  go_loopw [7] (fun iv wr => ∃ k : Nat, k ≤ nx ∧ iv = .int .i64 k ∧ Hid (BDirty wr px b2 ny c2 ly (upto k (fun i => wXor (g0 i) (fy i)) g0) ∧ Only [px, b2] w2 wr)) (fun iv _ => nx - (intOf iv).toNat)
  case atStart => exact ⟨0, by omega, rfl, by rw [upto_zero]; exact HX2.out.dirty.drewN _, (Only.refl _ _).drewN _⟩
  case round =>
    obtain ⟨k, hk, rfl, hR⟩ := hrel
    have HR : Hid (BDirty wr px b2 ny c2 ly (upto k (fun i => wXor (g0 i) (fy i)) g0) ∧ Only [px, b2] w2 wr) := hR
    clear hR
    have HY3 := Lib.hid (HY2.out.only HR.out.2 (by have := HP2.out; unfold Apart at this; simp; omega) (by have := HP2.out; unfold Apart at this; simp; omega))
    by_cases hkn : k < nx
    · have c1 := HY3.out.word (i := k) (by omega)
      have c2 : wr.cell? ⟨b2, k, none⟩ = some (.int .u64 (g0 k)) := by
        have := HR.out.1.word (i := k) (by omega)
        rwa [upto_at] at this
      have c3 := HR.out.1.wd.free k
      go_wp2_with fail
      have k0 : (0 : Int) ≤ (k : Int) := by omega
      have k1 : (k : Int) < (ny : Int) := by omega
      have k2 : (k : Int) < (ny : Int) := by omega
      refine wp_region_still_tail 10 (by kernel_rfl) (by kernel_rfl) ?_
      simp only [List.take_succ_cons, List.take_zero, List.drop_succ_cons, List.drop_zero]
      repeat still_step
      refine wpStill_nil ?_
      change wpList _ _ _ _ _ wr.drew
      have HE := Lib.hid (wXor_I (g0 k) (fy k) (HX2.out.small _) (HY2.out.small _))
      rw [HE.out]
      clear k0 k1 k2
      go_wp2_with fail
      go_roundw
      case rel =>
        refine ⟨k + 1, by omega, by go_num, ?_, (HR.out.2.drewN 1).setCell (Or.inl (by simp)) _⟩
        have := (HR.out.1.drewN 1).store k _ (wXor_lt (HX2.out.small k) (HY2.out.small k))
        rwa [upto_step k (fun i => wXor (g0 i) (fy i)) g0] at this
      case measure => simp [intOf]; omega
    · have hkk : k = nx := by omega
      have HK := Lib.hid hkk
      clear hkk
      have c1 := HY3.out.set_cell
      have HR2 : Hid (BDirty wr px b2 ny c2 ly (upto nx (fun i => wXor (g0 i) (fy i)) g0) ∧ Only [px, b2] w2 wr) := by have := HR.out; rwa [HK.out] at this
      go_wp2_with fail
      clear c1
      go_loopw [8] (fun iv wr => ∃ k : Nat, nx ≤ k ∧ k ≤ ny ∧ iv = .int .i64 k ∧ Hid (BDirty wr px b2 ny c2 ly (upto k (fun i => if i < nx then wXor (g0 i) (fy i) else fy i) g0) ∧ Only [px, b2] w2 wr)) (fun iv _ => ny - (intOf iv).toNat)
      case atStart => exact ⟨nx, Nat.le_refl _, by omega, rfl, by rw [upto_swap nx (fun i => if i < nx then wXor (g0 i) (fy i) else fy i) (fun i => wXor (g0 i) (fy i)) g0 (fun i hi => if_pos hi)]; exact HR2.out.1, HR2.out.2⟩
      case round =>
        obtain ⟨k, hkx, hk, rfl, hR⟩ := hrel
        have HR : Hid (BDirty wr px b2 ny c2 ly (upto k (fun i => if i < nx then wXor (g0 i) (fy i) else fy i) g0) ∧ Only [px, b2] w2 wr) := hR
        clear hR
        have HY4 := Lib.hid (HY2.out.only HR.out.2 (by have := HP2.out; unfold Apart at this; simp; omega) (by have := HP2.out; unfold Apart at this; simp; omega))
        have d1 := HY4.out.set_cell
        by_cases hkn : k < ny
        · have d2 := HY4.out.word hkn
          have d3 := HR.out.1.set_cell
          have d5 := HR.out.1.word (i := k) (by omega)
          have d4 := HR.out.1.wd.free k
          go_wp2_with fail
          have k0 : (0 : Int) ≤ (k : Int) := by omega
          have k1 : (k : Int) < (ny : Int) := by omega
          refine wp_region_still_tail 13 (by kernel_rfl) (by kernel_rfl) ?_
          simp only [List.take_succ_cons, List.take_zero, List.drop_succ_cons, List.drop_zero]
          repeat still_step
          refine wpStill_nil ?_
          change wpList _ _ _ _ _ wr.drew
          clear k0 k1
          go_wp2_with fail
          go_roundw
          case rel =>
            refine ⟨k + 1, by omega, by omega, by go_num, ?_, (HR.out.2.drewN 1).setCell (Or.inl (by simp)) _⟩
            have := (HR.out.1.drewN 1).store k _ (HY2.out.small k)
            have h3 : fy k = (fun i => if i < nx then wXor (g0 i) (fy i) else fy i) k := (if_neg (by omega)).symm
            rw [h3, upto_step k (fun i => if i < nx then wXor (g0 i) (fy i) else fy i) g0] at this
            rw [show (fy k : Int) = (((fun i => if i < nx then wXor (g0 i) (fy i) else fy i) k : Nat) : Int) from by rw [← h3]]
            exact this
          case measure => simp [intOf]; omega
        · have hkk : k = ny := by omega
          have HK := Lib.hid hkk
          clear hkk
          go_wp2_with fail
          go_end0
          have hd := HR.out.1
          rw [HK.out] at hd
          refine ⟨rfl, b2, c2, _, hd.whole (fun i h1 h2 => ?_), fun i hi => ?_, ?_, ?_, HC.out⟩
          · unfold upto
            rw [if_pos (show i / 64 < ny by omega)]
            have h3 := HX2.out.clean i h1 h2
            have h4 := HY2.out.clean i h1 h2
            show (((fun i => if i < nx then wXor (g0 i) (fy i) else fy i)) (i / 64)).testBit (i % 64) = false
            try simp only []
            split
            · rw [wXor_tb, h3, h4]; rfl
            · exact h4
          · unfold upto
            rw [if_pos hi]
            have h3 := HG.out i hi
            show ((fun i => if i < nx then wXor (g0 i) (fy i) else fy i)) i = _
            try simp only []
            by_cases hin : i < nx
            · rw [if_pos hin] at h3
              rw [if_pos hin, if_pos hin, h3]
            · rw [if_neg hin, if_neg hin]
          · refine Only.new (B := w.heap.size) HO.out (HR.out.2.mono fun k _ hk => ?_) (Nat.le_refl _)
            have := HB.out
            simp at hk ⊢
            omega
          · have := HB.out
            omega

set_option maxRecDepth 100000 in
set_option maxHeartbeats 1000000 in
theorem ipu_A0 {w : World} {px bx nx cx lx py bY ny cy ly : Nat} {fx fy : Nat → Nat} (hx : BSet w px bx nx cx lx fx) (hy : BSet w py bY ny cy ly fy) (hap : Apart px bx py bY) (hlt : lx < ly) (hn : nx < ny) (hpos : nx = 0) (hl : ly ≤ 100000) (hlx : lx ≤ 100000) (hcx : cx ≤ 200000) :
    Calls Try.prog 66 #[.pointer (some ⟨px, 0, none⟩), .pointer (some ⟨py, 0, none⟩)] w fun e w' => e = .returned (.tuple #[]) ∧ ∃ b2 c2 g, BSet w' px b2 ny c2 ly g ∧ (∀ i, i < ny → g i = if i < nx then wOr (fx i) (fy i) else fy i) ∧ Only [px, bx] w w' ∧ (b2 = bx ∨ w.heap.size ≤ b2) ∧ c2 ≤ 200000 := by
  have x0 := hx.len_cell
  have x1 := hx.set_cell
  have y0 := hy.len_cell
  have y1 := hy.set_cell
  have hnx : nx ≤ 20000 := by rw [hx.n_eq]; unfold wn; omega
  have hny : ny ≤ 20000 := by rw [hy.n_eq]; unfold wn; omega
  have HX := Lib.hid hx
  have HY := Lib.hid hy
  have HP := Lib.hid hap
  clear hx hy hap
  go_enter Try.func66, Try.ntmps66
  go_wp2_with fail
  refine (panicIfNull_any _ _).mono ?_; rintro e w' ⟨rfl, rfl⟩
  go_wp2_with fail
  refine (panicIfNull_any _ _).mono ?_; rintro e w' ⟨rfl, rfl⟩
  go_wp2_with fail
  refine (wordCount_any HY.out.dirty (by omega)).mono ?_; rintro e w' ⟨rfl, rfl⟩
  go_wp2_with fail
  refine (wordCount_any HX.out.dirty (by omega)).mono ?_; rintro e w' ⟨rfl, rfl⟩
  go_wp2_with fail
  refine (wordCount_any HX.out.dirty (by omega)).mono ?_; rintro e w' ⟨rfl, rfl⟩
  go_wp2_with fail
  have g1 : decide (0 < ly) = true := by apply decide_eq_true; omega
  obtain ⟨m, hm⟩ : ∃ m : Nat, m = ly - 1 := ⟨_, rfl⟩
  have g2 : (ly : Int) - 1 = (m : Int) := by omega
  have g3 : lx ≤ m := by omega
  have g4 : decide (lx ≤ m) = true := decide_eq_true g3
  have HM := Lib.hid hm
  clear hm
  go_quiet (fail)
  go_wp2_with fail
  refine (extend_words (HX.out.drewN nq) m g3 (by have := HM.out; omega) hcx).mono ?_
  rintro e w2 ⟨rfl, b2, c2, g0, hB, hg, ho, hb, hc⟩
  have hm1 : m + 1 = ly := by have := HM.out; omega
  rw [hm1, ← HY.out.n_eq] at hB
  rw [hm1, ← HY.out.n_eq] at hg
  clear hm1
  have HG := Lib.hid hg
  have HC := Lib.hid hc
  have hO : Only [px, bx] w w2 := ((Only.refl _ _).drewN nq).trans ho
  have HB : Hid (b2 = bx ∨ b2 = w.heap.size) := hb
  have hP2 : Apart px b2 py bY := by
    have h1 := HP.out
    have h2 := HY.out.plt
    have h3 := HY.out.blt
    unfold Apart at *
    rcases hb with rfl | h
    · exact h1
    · have : b2 = w.heap.size := h
      omega
  have HP2 := Lib.hid hP2
  have HY2 := Lib.hid (HY.out.only hO (by have := HP.out; unfold Apart at this; simp; omega) (by have := HP.out; unfold Apart at this; simp; omega))
  have HX2 := Lib.hid hB
  have HO := Lib.hid hO
  clear hg hc ho hb hO hP2 hB x0 x1 y0 y1
  have z1 := HX2.out.set_cell
  have z2 := HY2.out.set_cell
  go_wp2_with fail
  clear z1 z2
  go_loopw [8] (fun iv wr => ∃ k : Nat, nx ≤ k ∧ k ≤ ny ∧ iv = .int .i64 k ∧ Hid (BDirty wr px b2 ny c2 ly (upto k (fun i => if i < nx then wOr (g0 i) (fy i) else fy i) g0) ∧ Only [px, b2] w2 wr)) (fun iv _ => ny - (intOf iv).toNat)
  case atStart => exact ⟨nx, Nat.le_refl _, by omega, by rw [hpos]; rfl, by rw [hpos, upto_zero]; exact HX2.out.dirty, Only.refl _ _⟩
  case round =>
    obtain ⟨k, hkx, hk, rfl, hR⟩ := hrel
    have HR : Hid (BDirty wr px b2 ny c2 ly (upto k (fun i => if i < nx then wOr (g0 i) (fy i) else fy i) g0) ∧ Only [px, b2] w2 wr) := hR
    clear hR
    have HY4 := Lib.hid (HY2.out.only HR.out.2 (by have := HP2.out; unfold Apart at this; simp; omega) (by have := HP2.out; unfold Apart at this; simp; omega))
    have d1 := HY4.out.set_cell
    by_cases hkn : k < ny
    · have d2 := HY4.out.word hkn
      have d3 := HR.out.1.set_cell
      have d5 := HR.out.1.word (i := k) (by omega)
      have d4 := HR.out.1.wd.free k
      go_wp2_with fail
      have k0 : (0 : Int) ≤ (k : Int) := by omega
      have k1 : (k : Int) < (ny : Int) := by omega
      refine wp_region_still_tail 13 (by kernel_rfl) (by kernel_rfl) ?_
      simp only [List.take_succ_cons, List.take_zero, List.drop_succ_cons, List.drop_zero]
      repeat still_step
      refine wpStill_nil ?_
      change wpList _ _ _ _ _ wr.drew
      clear k0 k1
      go_wp2_with fail
      go_roundw
      case rel =>
        refine ⟨k + 1, by omega, by omega, by go_num, ?_, (HR.out.2.drewN 1).setCell (Or.inl (by simp)) _⟩
        have := (HR.out.1.drewN 1).store k _ (HY2.out.small k)
        have h3 : fy k = (fun i => if i < nx then wOr (g0 i) (fy i) else fy i) k := (if_neg (by omega)).symm
        rw [h3, upto_step k (fun i => if i < nx then wOr (g0 i) (fy i) else fy i) g0] at this
        rw [show (fy k : Int) = (((fun i => if i < nx then wOr (g0 i) (fy i) else fy i) k : Nat) : Int) from by rw [← h3]]
        exact this
      case measure => simp [intOf]; omega
    · have hkk : k = ny := by omega
      have HK := Lib.hid hkk
      clear hkk
      go_wp2_with fail
      go_end0
      have hd := HR.out.1
      rw [HK.out] at hd
      refine ⟨rfl, b2, c2, _, hd.whole (fun i h1 h2 => ?_), fun i hi => ?_, ?_, ?_, HC.out⟩
      · unfold upto
        rw [if_pos (show i / 64 < ny by omega)]
        have h3 := HX2.out.clean i h1 h2
        have h4 := HY2.out.clean i h1 h2
        show (((fun i => if i < nx then wOr (g0 i) (fy i) else fy i)) (i / 64)).testBit (i % 64) = false
        try simp only []
        split
        · rw [wOr_tb, h3, h4]; rfl
        · exact h4
      · unfold upto
        rw [if_pos hi]
        have h3 := HG.out i hi
        show ((fun i => if i < nx then wOr (g0 i) (fy i) else fy i)) i = _
        try simp only []
        by_cases hin : i < nx
        · rw [if_pos hin] at h3
          rw [if_pos hin, if_pos hin, h3]
        · rw [if_neg hin, if_neg hin]
      · refine Only.new (B := w.heap.size) HO.out (HR.out.2.mono fun k _ hk => ?_) (Nat.le_refl _)
        have := HB.out
        simp at hk ⊢
        omega
      · have := HB.out
        omega

set_option maxRecDepth 100000 in
set_option maxHeartbeats 1000000 in
theorem ips_A0 {w : World} {px bx nx cx lx py bY ny cy ly : Nat} {fx fy : Nat → Nat} (hx : BSet w px bx nx cx lx fx) (hy : BSet w py bY ny cy ly fy) (hap : Apart px bx py bY) (hlt : lx < ly) (hn : nx < ny) (hpos : nx = 0) (hl : ly ≤ 100000) (hlx : lx ≤ 100000) (hcx : cx ≤ 200000) :
    Calls Try.prog 69 #[.pointer (some ⟨px, 0, none⟩), .pointer (some ⟨py, 0, none⟩)] w fun e w' => e = .returned (.tuple #[]) ∧ ∃ b2 c2 g, BSet w' px b2 ny c2 ly g ∧ (∀ i, i < ny → g i = if i < nx then wXor (fx i) (fy i) else fy i) ∧ Only [px, bx] w w' ∧ (b2 = bx ∨ w.heap.size ≤ b2) ∧ c2 ≤ 200000 := by
  have x0 := hx.len_cell
  have x1 := hx.set_cell
  have y0 := hy.len_cell
  have y1 := hy.set_cell
  have hnx : nx ≤ 20000 := by rw [hx.n_eq]; unfold wn; omega
  have hny : ny ≤ 20000 := by rw [hy.n_eq]; unfold wn; omega
  have HX := Lib.hid hx
  have HY := Lib.hid hy
  have HP := Lib.hid hap
  clear hx hy hap
  go_enter Try.func69, Try.ntmps69
  go_wp2_with fail
  refine (panicIfNull_any _ _).mono ?_; rintro e w' ⟨rfl, rfl⟩
  go_wp2_with fail
  refine (panicIfNull_any _ _).mono ?_; rintro e w' ⟨rfl, rfl⟩
  go_wp2_with fail
  refine (wordCount_any HY.out.dirty (by omega)).mono ?_; rintro e w' ⟨rfl, rfl⟩
  go_wp2_with fail
  refine (wordCount_any HX.out.dirty (by omega)).mono ?_; rintro e w' ⟨rfl, rfl⟩
  go_wp2_with fail
  refine (wordCount_any HX.out.dirty (by omega)).mono ?_; rintro e w' ⟨rfl, rfl⟩
  go_wp2_with fail
  have g1 : decide (0 < ly) = true := by apply decide_eq_true; omega
  obtain ⟨m, hm⟩ : ∃ m : Nat, m = ly - 1 := ⟨_, rfl⟩
  have g2 : (ly : Int) - 1 = (m : Int) := by omega
  have g3 : lx ≤ m := by omega
  have g4 : decide (lx ≤ m) = true := decide_eq_true g3
  have HM := Lib.hid hm
  clear hm
  go_quiet (fail)
  go_wp2_with fail
  refine (extend_words (HX.out.drewN nq) m g3 (by have := HM.out; omega) hcx).mono ?_
  rintro e w2 ⟨rfl, b2, c2, g0, hB, hg, ho, hb, hc⟩
  have hm1 : m + 1 = ly := by have := HM.out; omega
  rw [hm1, ← HY.out.n_eq] at hB
  rw [hm1, ← HY.out.n_eq] at hg
  clear hm1
  have HG := Lib.hid hg
  have HC := Lib.hid hc
  have hO : Only [px, bx] w w2 := ((Only.refl _ _).drewN nq).trans ho
  have HB : Hid (b2 = bx ∨ b2 = w.heap.size) := hb
  have hP2 : Apart px b2 py bY := by
    have h1 := HP.out
    have h2 := HY.out.plt
    have h3 := HY.out.blt
    unfold Apart at *
    rcases hb with rfl | h
    · exact h1
    · have : b2 = w.heap.size := h
      omega
  have HP2 := Lib.hid hP2
  have HY2 := Lib.hid (HY.out.only hO (by have := HP.out; unfold Apart at this; simp; omega) (by have := HP.out; unfold Apart at this; simp; omega))
  have HX2 := Lib.hid hB
  have HO := Lib.hid hO
  clear hg hc ho hb hO hP2 hB x0 x1 y0 y1
  have z1 := HX2.out.set_cell
  have z2 := HY2.out.set_cell
  go_wp2_with fail
  clear z1 z2
  go_loopw [8] (fun iv wr => ∃ k : Nat, nx ≤ k ∧ k ≤ ny ∧ iv = .int .i64 k ∧ Hid (BDirty wr px b2 ny c2 ly (upto k (fun i => if i < nx then wXor (g0 i) (fy i) else fy i) g0) ∧ Only [px, b2] w2 wr)) (fun iv _ => ny - (intOf iv).toNat)
  case atStart => exact ⟨nx, Nat.le_refl _, by omega, by rw [hpos]; rfl, by rw [hpos, upto_zero]; exact HX2.out.dirty, Only.refl _ _⟩
  case round =>
    obtain ⟨k, hkx, hk, rfl, hR⟩ := hrel
    have HR : Hid (BDirty wr px b2 ny c2 ly (upto k (fun i => if i < nx then wXor (g0 i) (fy i) else fy i) g0) ∧ Only [px, b2] w2 wr) := hR
    clear hR
    have HY4 := Lib.hid (HY2.out.only HR.out.2 (by have := HP2.out; unfold Apart at this; simp; omega) (by have := HP2.out; unfold Apart at this; simp; omega))
    have d1 := HY4.out.set_cell
    by_cases hkn : k < ny
    · have d2 := HY4.out.word hkn
      have d3 := HR.out.1.set_cell
      have d5 := HR.out.1.word (i := k) (by omega)
      have d4 := HR.out.1.wd.free k
      go_wp2_with fail
      have k0 : (0 : Int) ≤ (k : Int) := by omega
      have k1 : (k : Int) < (ny : Int) := by omega
      refine wp_region_still_tail 13 (by kernel_rfl) (by kernel_rfl) ?_
      simp only [List.take_succ_cons, List.take_zero, List.drop_succ_cons, List.drop_zero]
      repeat still_step
      refine wpStill_nil ?_
      change wpList _ _ _ _ _ wr.drew
      clear k0 k1
      go_wp2_with fail
      go_roundw
      case rel =>
        refine ⟨k + 1, by omega, by omega, by go_num, ?_, (HR.out.2.drewN 1).setCell (Or.inl (by simp)) _⟩
        have := (HR.out.1.drewN 1).store k _ (HY2.out.small k)
        have h3 : fy k = (fun i => if i < nx then wXor (g0 i) (fy i) else fy i) k := (if_neg (by omega)).symm
        rw [h3, upto_step k (fun i => if i < nx then wXor (g0 i) (fy i) else fy i) g0] at this
        rw [show (fy k : Int) = (((fun i => if i < nx then wXor (g0 i) (fy i) else fy i) k : Nat) : Int) from by rw [← h3]]
        exact this
      case measure => simp [intOf]; omega
    · have hkk : k = ny := by omega
      have HK := Lib.hid hkk
      clear hkk
      go_wp2_with fail
      go_end0
      have hd := HR.out.1
      rw [HK.out] at hd
      refine ⟨rfl, b2, c2, _, hd.whole (fun i h1 h2 => ?_), fun i hi => ?_, ?_, ?_, HC.out⟩
      · unfold upto
        rw [if_pos (show i / 64 < ny by omega)]
        have h3 := HX2.out.clean i h1 h2
        have h4 := HY2.out.clean i h1 h2
        show (((fun i => if i < nx then wXor (g0 i) (fy i) else fy i)) (i / 64)).testBit (i % 64) = false
        try simp only []
        split
        · rw [wXor_tb, h3, h4]; rfl
        · exact h4
      · unfold upto
        rw [if_pos hi]
        have h3 := HG.out i hi
        show ((fun i => if i < nx then wXor (g0 i) (fy i) else fy i)) i = _
        try simp only []
        by_cases hin : i < nx
        · rw [if_pos hin] at h3
          rw [if_pos hin, if_pos hin, h3]
        · rw [if_neg hin, if_neg hin]
      · refine Only.new (B := w.heap.size) HO.out (HR.out.2.mono fun k _ hk => ?_) (Nat.le_refl _)
        have := HB.out
        simp at hk ⊢
        omega
      · have := HB.out
        omega

set_option maxRecDepth 100000 in
set_option maxHeartbeats 1000000 in
theorem ipu_A2 {w : World} {px bx nx cx lx py bY ny cy ly : Nat} {fx fy : Nat → Nat} (hx : BSet w px bx nx cx lx fx) (hy : BSet w py bY ny cy ly fy) (hap : Apart px bx py bY) (hlt : lx < ly) (hn : nx = ny) (hl : ly ≤ 100000) (hlx : lx ≤ 100000) (hcx : cx ≤ 200000) :
    Calls Try.prog 66 #[.pointer (some ⟨px, 0, none⟩), .pointer (some ⟨py, 0, none⟩)] w fun e w' => e = .returned (.tuple #[]) ∧ ∃ b2 c2 g, BSet w' px b2 ny c2 ly g ∧ (∀ i, i < ny → g i = if i < nx then wOr (fx i) (fy i) else fy i) ∧ Only [px, bx] w w' ∧ (b2 = bx ∨ w.heap.size ≤ b2) ∧ c2 ≤ 200000 := by
  obtain rfl := hn.symm
  have hpos : 0 < ny := by have := hy.n_eq; unfold wn at this; omega
  have x0 := hx.len_cell
  have x1 := hx.set_cell
  have y0 := hy.len_cell
  have y1 := hy.set_cell
  have hnx : ny ≤ 20000 := by rw [hx.n_eq]; unfold wn; omega
  have hny : ny ≤ 20000 := by rw [hy.n_eq]; unfold wn; omega
  have HX := Lib.hid hx
  have HY := Lib.hid hy
  have HP := Lib.hid hap
  clear hx hy hap
  go_enter Try.func66, Try.ntmps66
  go_wp2_with fail
  refine (panicIfNull_any _ _).mono ?_; rintro e w' ⟨rfl, rfl⟩
  go_wp2_with fail
  refine (panicIfNull_any _ _).mono ?_; rintro e w' ⟨rfl, rfl⟩
  go_wp2_with fail
  refine (wordCount_any HY.out.dirty (by omega)).mono ?_; rintro e w' ⟨rfl, rfl⟩
  go_wp2_with fail
  refine (wordCount_any HX.out.dirty (by omega)).mono ?_; rintro e w' ⟨rfl, rfl⟩
  go_wp2_with fail
  have g1 : decide (0 < ly) = true := by apply decide_eq_true; omega
  obtain ⟨m, hm⟩ : ∃ m : Nat, m = ly - 1 := ⟨_, rfl⟩
  have g2 : (ly : Int) - 1 = (m : Int) := by omega
  have g3 : lx ≤ m := by omega
  have g4 : decide (lx ≤ m) = true := decide_eq_true g3
  have HM := Lib.hid hm
  clear hm
  go_quiet (fail)
  go_wp2_with fail
  refine (extend_words (HX.out.drewN nq) m g3 (by have := HM.out; omega) hcx).mono ?_
  rintro e w2 ⟨rfl, b2, c2, g0, hB, hg, ho, hb, hc⟩
  have hm1 : m + 1 = ly := by have := HM.out; omega
  rw [hm1, ← HY.out.n_eq] at hB
  rw [hm1, ← HY.out.n_eq] at hg
  clear hm1
  have HG := Lib.hid hg
  have HC := Lib.hid hc
  have hO : Only [px, bx] w w2 := ((Only.refl _ _).drewN nq).trans ho
  have HB : Hid (b2 = bx ∨ b2 = w.heap.size) := hb
  have hP2 : Apart px b2 py bY := by
    have h1 := HP.out
    have h2 := HY.out.plt
    have h3 := HY.out.blt
    unfold Apart at *
    rcases hb with rfl | h
    · exact h1
    · have : b2 = w.heap.size := h
      omega
  have HP2 := Lib.hid hP2
  have HY2 := Lib.hid (HY.out.only hO (by have := HP.out; unfold Apart at this; simp; omega) (by have := HP.out; unfold Apart at this; simp; omega))
  have HX2 := Lib.hid hB
  have HO := Lib.hid hO
  clear hg hc ho hb hO hP2 hB x0 x1 y0 y1
  have z1 := HX2.out.set_cell
  have z2 := HY2.out.set_cell
  obtain ⟨j, hj⟩ : ∃ j : Nat, (j : Int) = (ny : Int) - 1 := ⟨ny - 1, by omega⟩
  have j1 : (ny : Int) - 1 = (j : Int) := hj.symm
  have j2 : j < ny := by omega
  have j3 : j < ny := by omega
  have z3 := HX2.out.word j3
  have z4 := HY2.out.word j2
  clear hj
  go_wp2_with fail
  go_quiet (fail)
  go_wp2_with fail
  clear z1 z2 z3 z4 j1 j2 j3
  go_loopw [7] (fun iv wr => ∃ k : Nat, k ≤ ny ∧ iv = .int .i64 k ∧ Hid (BDirty wr px b2 ny c2 ly (upto k (fun i => wOr (g0 i) (fy i)) g0) ∧ Only [px, b2] w2 wr)) (fun iv _ => ny - (intOf iv).toNat)
  case atStart => exact ⟨0, by omega, rfl, by rw [upto_zero]; exact HX2.out.dirty.drewN _, (Only.refl _ _).drewN _⟩
  case round =>
    obtain ⟨k, hk, rfl, hR⟩ := hrel
    have HR : Hid (BDirty wr px b2 ny c2 ly (upto k (fun i => wOr (g0 i) (fy i)) g0) ∧ Only [px, b2] w2 wr) := hR
    clear hR
    have HY3 := Lib.hid (HY2.out.only HR.out.2 (by have := HP2.out; unfold Apart at this; simp; omega) (by have := HP2.out; unfold Apart at this; simp; omega))
    by_cases hkn : k < ny
    · have c1 := HY3.out.word (i := k) (by omega)
      have c2 : wr.cell? ⟨b2, k, none⟩ = some (.int .u64 (g0 k)) := by
        have := HR.out.1.word (i := k) (by omega)
        rwa [upto_at] at this
      have c3 := HR.out.1.wd.free k
      go_wp2_with fail
      have k0 : (0 : Int) ≤ (k : Int) := by omega
      have k1 : (k : Int) < (ny : Int) := by omega
      have k2 : (k : Int) < (ny : Int) := by omega
      refine wp_region_still_tail 10 (by kernel_rfl) (by kernel_rfl) ?_
      simp only [List.take_succ_cons, List.take_zero, List.drop_succ_cons, List.drop_zero]
      repeat still_step
      refine wpStill_nil ?_
      change wpList _ _ _ _ _ wr.drew
      have HE := Lib.hid (wOr_I (g0 k) (fy k) (HX2.out.small _) (HY2.out.small _))
      rw [HE.out]
      clear k0 k1 k2
      go_wp2_with fail
      go_roundw
      case rel =>
        refine ⟨k + 1, by omega, by go_num, ?_, (HR.out.2.drewN 1).setCell (Or.inl (by simp)) _⟩
        have := (HR.out.1.drewN 1).store k _ (wOr_lt (HX2.out.small k) (HY2.out.small k))
        rwa [upto_step k (fun i => wOr (g0 i) (fy i)) g0] at this
      case measure => simp [intOf]; omega
    · have hkk : k = ny := by omega
      have HK := Lib.hid hkk
      clear hkk
      have c1 := HY3.out.set_cell
      have HR2 : Hid (BDirty wr px b2 ny c2 ly (upto ny (fun i => wOr (g0 i) (fy i)) g0) ∧ Only [px, b2] w2 wr) := by have := HR.out; rwa [HK.out] at this
      go_wp2_with fail
      go_end0
      have hd := HR.out.1
      rw [HK.out] at hd
      refine ⟨rfl, b2, c2, _, hd.whole (fun i h1 h2 => ?_), fun i hi => ?_, ?_, ?_, HC.out⟩
      · unfold upto
        rw [if_pos (show i / 64 < ny by omega)]
        have h3 := HX2.out.clean i h1 h2
        have h4 := HY2.out.clean i h1 h2
        show (((fun i => wOr (g0 i) (fy i))) (i / 64)).testBit (i % 64) = false
        try simp only []
        skip
        · rw [wOr_tb, h3, h4]; rfl
      · unfold upto
        rw [if_pos hi]
        have h3 := HG.out i hi
        show ((fun i => wOr (g0 i) (fy i))) i = _
        try simp only []
        by_cases hin : i < ny
        · rw [if_pos hin] at h3
          rw [if_pos hin, h3]
        · omega
      · refine Only.new (B := w.heap.size) HO.out (HR.out.2.mono fun k _ hk => ?_) (Nat.le_refl _)
        have := HB.out
        simp at hk ⊢
        omega
      · have := HB.out
        omega

set_option maxRecDepth 100000 in
set_option maxHeartbeats 1000000 in
theorem ips_A2 {w : World} {px bx nx cx lx py bY ny cy ly : Nat} {fx fy : Nat → Nat} (hx : BSet w px bx nx cx lx fx) (hy : BSet w py bY ny cy ly fy) (hap : Apart px bx py bY) (hlt : lx < ly) (hn : nx = ny) (hl : ly ≤ 100000) (hlx : lx ≤ 100000) (hcx : cx ≤ 200000) :
    Calls Try.prog 69 #[.pointer (some ⟨px, 0, none⟩), .pointer (some ⟨py, 0, none⟩)] w fun e w' => e = .returned (.tuple #[]) ∧ ∃ b2 c2 g, BSet w' px b2 ny c2 ly g ∧ (∀ i, i < ny → g i = if i < nx then wXor (fx i) (fy i) else fy i) ∧ Only [px, bx] w w' ∧ (b2 = bx ∨ w.heap.size ≤ b2) ∧ c2 ≤ 200000 := by
  obtain rfl := hn.symm
  have hpos : 0 < ny := by have := hy.n_eq; unfold wn at this; omega
  have x0 := hx.len_cell
  have x1 := hx.set_cell
  have y0 := hy.len_cell
  have y1 := hy.set_cell
  have hnx : ny ≤ 20000 := by rw [hx.n_eq]; unfold wn; omega
  have hny : ny ≤ 20000 := by rw [hy.n_eq]; unfold wn; omega
  have HX := Lib.hid hx
  have HY := Lib.hid hy
  have HP := Lib.hid hap
  clear hx hy hap
  go_enter Try.func69, Try.ntmps69
  go_wp2_with fail
  refine (panicIfNull_any _ _).mono ?_; rintro e w' ⟨rfl, rfl⟩
  go_wp2_with fail
  refine (panicIfNull_any _ _).mono ?_; rintro e w' ⟨rfl, rfl⟩
  go_wp2_with fail
  refine (wordCount_any HY.out.dirty (by omega)).mono ?_; rintro e w' ⟨rfl, rfl⟩
  go_wp2_with fail
  refine (wordCount_any HX.out.dirty (by omega)).mono ?_; rintro e w' ⟨rfl, rfl⟩
  go_wp2_with fail
  have g1 : decide (0 < ly) = true := by apply decide_eq_true; omega
  obtain ⟨m, hm⟩ : ∃ m : Nat, m = ly - 1 := ⟨_, rfl⟩
  have g2 : (ly : Int) - 1 = (m : Int) := by omega
  have g3 : lx ≤ m := by omega
  have g4 : decide (lx ≤ m) = true := decide_eq_true g3
  have HM := Lib.hid hm
  clear hm
  go_quiet (fail)
  go_wp2_with fail
  refine (extend_words (HX.out.drewN nq) m g3 (by have := HM.out; omega) hcx).mono ?_
  rintro e w2 ⟨rfl, b2, c2, g0, hB, hg, ho, hb, hc⟩
  have hm1 : m + 1 = ly := by have := HM.out; omega
  rw [hm1, ← HY.out.n_eq] at hB
  rw [hm1, ← HY.out.n_eq] at hg
  clear hm1
  have HG := Lib.hid hg
  have HC := Lib.hid hc
  have hO : Only [px, bx] w w2 := ((Only.refl _ _).drewN nq).trans ho
  have HB : Hid (b2 = bx ∨ b2 = w.heap.size) := hb
  have hP2 : Apart px b2 py bY := by
    have h1 := HP.out
    have h2 := HY.out.plt
    have h3 := HY.out.blt
    unfold Apart at *
    rcases hb with rfl | h
    · exact h1
    · have : b2 = w.heap.size := h
      omega
  have HP2 := Lib.hid hP2
  have HY2 := Lib.hid (HY.out.only hO (by have := HP.out; unfold Apart at this; simp; omega) (by have := HP.out; unfold Apart at this; simp; omega))
  have HX2 := Lib.hid hB
  have HO := Lib.hid hO
  clear hg hc ho hb hO hP2 hB x0 x1 y0 y1
  have z1 := HX2.out.set_cell
  have z2 := HY2.out.set_cell
  obtain ⟨j, hj⟩ : ∃ j : Nat, (j : Int) = (ny : Int) - 1 := ⟨ny - 1, by omega⟩
  have j1 : (ny : Int) - 1 = (j : Int) := hj.symm
  have j2 : j < ny := by omega
  have j3 : j < ny := by omega
  have z3 := HX2.out.word j3
  have z4 := HY2.out.word j2
  clear hj
  go_wp2_with fail
  go_quiet (fail)
  go_wp2_with fail
  clear z1 z2 z3 z4 j1 j2 j3
  go_loopw [7] (fun iv wr => ∃ k : Nat, k ≤ ny ∧ iv = .int .i64 k ∧ Hid (BDirty wr px b2 ny c2 ly (upto k (fun i => wXor (g0 i) (fy i)) g0) ∧ Only [px, b2] w2 wr)) (fun iv _ => ny - (intOf iv).toNat)
  case atStart => exact ⟨0, by omega, rfl, by rw [upto_zero]; exact HX2.out.dirty.drewN _, (Only.refl _ _).drewN _⟩
  case round =>
    obtain ⟨k, hk, rfl, hR⟩ := hrel
    have HR : Hid (BDirty wr px b2 ny c2 ly (upto k (fun i => wXor (g0 i) (fy i)) g0) ∧ Only [px, b2] w2 wr) := hR
    clear hR
    have HY3 := Lib.hid (HY2.out.only HR.out.2 (by have := HP2.out; unfold Apart at this; simp; omega) (by have := HP2.out; unfold Apart at this; simp; omega))
    by_cases hkn : k < ny
    · have c1 := HY3.out.word (i := k) (by omega)
      have c2 : wr.cell? ⟨b2, k, none⟩ = some (.int .u64 (g0 k)) := by
        have := HR.out.1.word (i := k) (by omega)
        rwa [upto_at] at this
      have c3 := HR.out.1.wd.free k
      go_wp2_with fail
      have k0 : (0 : Int) ≤ (k : Int) := by omega
      have k1 : (k : Int) < (ny : Int) := by omega
      have k2 : (k : Int) < (ny : Int) := by omega
      refine wp_region_still_tail 10 (by kernel_rfl) (by kernel_rfl) ?_
      simp only [List.take_succ_cons, List.take_zero, List.drop_succ_cons, List.drop_zero]
      repeat still_step
      refine wpStill_nil ?_
      change wpList _ _ _ _ _ wr.drew
      have HE := Lib.hid (wXor_I (g0 k) (fy k) (HX2.out.small _) (HY2.out.small _))
      rw [HE.out]
      clear k0 k1 k2
      go_wp2_with fail
      go_roundw
      case rel =>
        refine ⟨k + 1, by omega, by go_num, ?_, (HR.out.2.drewN 1).setCell (Or.inl (by simp)) _⟩
        have := (HR.out.1.drewN 1).store k _ (wXor_lt (HX2.out.small k) (HY2.out.small k))
        rwa [upto_step k (fun i => wXor (g0 i) (fy i)) g0] at this
      case measure => simp [intOf]; omega
    · have hkk : k = ny := by omega
      have HK := Lib.hid hkk
      clear hkk
      have c1 := HY3.out.set_cell
      have HR2 : Hid (BDirty wr px b2 ny c2 ly (upto ny (fun i => wXor (g0 i) (fy i)) g0) ∧ Only [px, b2] w2 wr) := by have := HR.out; rwa [HK.out] at this
      go_wp2_with fail
      go_end0
      have hd := HR.out.1
      rw [HK.out] at hd
      refine ⟨rfl, b2, c2, _, hd.whole (fun i h1 h2 => ?_), fun i hi => ?_, ?_, ?_, HC.out⟩
      · unfold upto
        rw [if_pos (show i / 64 < ny by omega)]
        have h3 := HX2.out.clean i h1 h2
        have h4 := HY2.out.clean i h1 h2
        show (((fun i => wXor (g0 i) (fy i))) (i / 64)).testBit (i % 64) = false
        try simp only []
        skip
        · rw [wXor_tb, h3, h4]; rfl
      · unfold upto
        rw [if_pos hi]
        have h3 := HG.out i hi
        show ((fun i => wXor (g0 i) (fy i))) i = _
        try simp only []
        by_cases hin : i < ny
        · rw [if_pos hin] at h3
          rw [if_pos hin, h3]
        · omega
      · refine Only.new (B := w.heap.size) HO.out (HR.out.2.mono fun k _ hk => ?_) (Nat.le_refl _)
        have := HB.out
        simp at hk ⊢
        omega
      · have := HB.out
        omega

set_option maxRecDepth 100000 in
set_option maxHeartbeats 1000000 in
theorem ipu_B1 {w : World} {px bx nx cx lx py bY ny cy ly : Nat} {fx fy : Nat → Nat} (hx : BSet w px bx nx cx lx fx) (hy : BSet w py bY ny cy ly fy) (hap : Apart px bx py bY) (hle : ly ≤ lx) (hpos : 0 < ny) (hl : ly ≤ 100000) (hlx : lx ≤ 100000) (_hcx : cx ≤ 200000) :
    Calls Try.prog 66 #[.pointer (some ⟨px, 0, none⟩), .pointer (some ⟨py, 0, none⟩)] w fun e w' => e = .returned (.tuple #[]) ∧ ∃ g, BSet w' px bx nx cx lx g ∧ (∀ i, i < nx → g i = if i < ny then wOr (fx i) (fy i) else fx i) ∧ Only [px, bx] w w' := by
  have hnl : ny ≤ nx := by rw [hx.n_eq, hy.n_eq]; unfold wn; omega
  have hnf : decide (nx < ny) = false := decide_eq_false (by omega)
  have hl0 : 0 < ly := by have := hy.n_eq; unfold wn at this; omega
  have x0 := hx.len_cell
  have x1 := hx.set_cell
  have y0 := hy.len_cell
  have y1 := hy.set_cell
  have hnx : nx ≤ 20000 := by rw [hx.n_eq]; unfold wn; omega
  have hny : ny ≤ 20000 := by rw [hy.n_eq]; unfold wn; omega
  have HX := Lib.hid hx
  have HY := Lib.hid hy
  have HP := Lib.hid hap
  clear hx hy hap
  go_enter Try.func66, Try.ntmps66
  go_wp2_with fail
  refine (panicIfNull_any _ _).mono ?_; rintro e w' ⟨rfl, rfl⟩
  go_wp2_with fail
  refine (panicIfNull_any _ _).mono ?_; rintro e w' ⟨rfl, rfl⟩
  go_wp2_with fail
  refine (wordCount_any HY.out.dirty (by omega)).mono ?_; rintro e w' ⟨rfl, rfl⟩
  go_wp2_with fail
  refine (wordCount_any HX.out.dirty (by omega)).mono ?_; rintro e w' ⟨rfl, rfl⟩
  go_wp2_with fail
  have g1 : decide (0 < ly) = true := by apply decide_eq_true; omega
  obtain ⟨m, hm⟩ : ∃ m : Nat, m = ly - 1 := ⟨_, rfl⟩
  have g2 : (ly : Int) - 1 = (m : Int) := by omega
  have g3 : m < lx := by omega
  have g4 : decide (lx ≤ m) = false := decide_eq_false (by omega)
  have HM := Lib.hid hm
  clear hm
  go_quiet (fail)
  obtain ⟨w2, hw2⟩ : ∃ w2, w2 = w.drewN nq := ⟨_, rfl⟩
  have HX2 : Hid (BSet w2 px bx nx cx lx fx) := by rw [hw2]; exact HX.out.drewN nq
  have HY2 : Hid (BSet w2 py bY ny cy ly fy) := by rw [hw2]; exact HY.out.drewN nq
  have HO : Hid (Only [px, bx] w w2) := by rw [hw2]; exact (Only.refl _ _).drewN nq
  have HP2 := HP
  rw [← hw2]
  clear hw2 x0 x1 y0 y1
  have z1 := HX2.out.set_cell
  have z2 := HY2.out.set_cell
  obtain ⟨j, hj⟩ : ∃ j : Nat, (j : Int) = (ny : Int) - 1 := ⟨ny - 1, by omega⟩
  have j1 : (ny : Int) - 1 = (j : Int) := hj.symm
  have j2 : j < ny := by omega
  have j3 : j < nx := by omega
  have z3 := HX2.out.word j3
  have z4 := HY2.out.word j2
  clear hj
  go_wp2_with fail
  go_quiet (fail)
  go_wp2_with fail
  clear z1 z2 z3 z4 j1 j2 j3
  go_loopw [7] (fun iv wr => ∃ k : Nat, k ≤ ny ∧ iv = .int .i64 k ∧ Hid (BDirty wr px bx nx cx lx (upto k (fun i => wOr (fx i) (fy i)) fx) ∧ Only [px, bx] w2 wr)) (fun iv _ => ny - (intOf iv).toNat)
  case atStart => exact ⟨0, by omega, rfl, by rw [upto_zero]; exact HX2.out.dirty.drewN _, (Only.refl _ _).drewN _⟩
  case round =>
    obtain ⟨k, hk, rfl, hR⟩ := hrel
    have HR : Hid (BDirty wr px bx nx cx lx (upto k (fun i => wOr (fx i) (fy i)) fx) ∧ Only [px, bx] w2 wr) := hR
    clear hR
    have HY3 := Lib.hid (HY2.out.only HR.out.2 (by have := HP2.out; unfold Apart at this; simp; omega) (by have := HP2.out; unfold Apart at this; simp; omega))
    by_cases hkn : k < ny
    · have c1 := HY3.out.word (i := k) (by omega)
      have c2 : wr.cell? ⟨bx, k, none⟩ = some (.int .u64 (fx k)) := by
        have := HR.out.1.word (i := k) (by omega)
        rwa [upto_at] at this
      have c3 := HR.out.1.wd.free k
      go_wp2_with fail
      have k0 : (0 : Int) ≤ (k : Int) := by omega
      have k1 : (k : Int) < (nx : Int) := by omega
      have k2 : (k : Int) < (ny : Int) := by omega
      refine wp_region_still_tail 10 (by kernel_rfl) (by kernel_rfl) ?_
      simp only [List.take_succ_cons, List.take_zero, List.drop_succ_cons, List.drop_zero]
      repeat still_step
      refine wpStill_nil ?_
      change wpList _ _ _ _ _ wr.drew
      have HE := Lib.hid (wOr_I (fx k) (fy k) (HX2.out.small _) (HY2.out.small _))
      rw [HE.out]
      clear k0 k1 k2
      go_wp2_with fail
      go_roundw
      case rel =>
        refine ⟨k + 1, by omega, by go_num, ?_, (HR.out.2.drewN 1).setCell (Or.inl (by simp)) _⟩
        have := (HR.out.1.drewN 1).store k _ (wOr_lt (HX2.out.small k) (HY2.out.small k))
        rwa [upto_step k (fun i => wOr (fx i) (fy i)) fx] at this
      case measure => simp [intOf]; omega
    · have hkk : k = ny := by omega
      have HK := Lib.hid hkk
      clear hkk
      have c1 := HY3.out.set_cell
      have HR2 : Hid (BDirty wr px bx nx cx lx (upto ny (fun i => wOr (fx i) (fy i)) fx) ∧ Only [px, bx] w2 wr) := by have := HR.out; rwa [HK.out] at this
      go_wp2_with fail
      go_end0
      have hd := HR.out.1
      rw [HK.out] at hd
      refine ⟨rfl, _, hd.whole (fun i h1 h2 => ?_), fun i hi => ?_, HO.out.trans HR.out.2⟩
      · unfold upto
        have h3 := HX2.out.clean i h1 h2
        split
        · have h4 := HY2.out.clean i (by omega) (by omega)
          show (wOr (fx (i / 64)) (fy (i / 64))).testBit (i % 64) = false
          rw [wOr_tb, h3, h4]; rfl
        · exact h3
      · unfold upto
        rfl

set_option maxRecDepth 100000 in
set_option maxHeartbeats 1000000 in
theorem ips_B1 {w : World} {px bx nx cx lx py bY ny cy ly : Nat} {fx fy : Nat → Nat} (hx : BSet w px bx nx cx lx fx) (hy : BSet w py bY ny cy ly fy) (hap : Apart px bx py bY) (hle : ly ≤ lx) (hpos : 0 < ny) (hl : ly ≤ 100000) (hlx : lx ≤ 100000) (_hcx : cx ≤ 200000) :
    Calls Try.prog 69 #[.pointer (some ⟨px, 0, none⟩), .pointer (some ⟨py, 0, none⟩)] w fun e w' => e = .returned (.tuple #[]) ∧ ∃ g, BSet w' px bx nx cx lx g ∧ (∀ i, i < nx → g i = if i < ny then wXor (fx i) (fy i) else fx i) ∧ Only [px, bx] w w' := by
  have hnl : ny ≤ nx := by rw [hx.n_eq, hy.n_eq]; unfold wn; omega
  have hnf : decide (nx < ny) = false := decide_eq_false (by omega)
  have hl0 : 0 < ly := by have := hy.n_eq; unfold wn at this; omega
  have x0 := hx.len_cell
  have x1 := hx.set_cell
  have y0 := hy.len_cell
  have y1 := hy.set_cell
  have hnx : nx ≤ 20000 := by rw [hx.n_eq]; unfold wn; omega
  have hny : ny ≤ 20000 := by rw [hy.n_eq]; unfold wn; omega
  have HX := Lib.hid hx
  have HY := Lib.hid hy
  have HP := Lib.hid hap
  clear hx hy hap
  go_enter Try.func69, Try.ntmps69
  go_wp2_with fail
  refine (panicIfNull_any _ _).mono ?_; rintro e w' ⟨rfl, rfl⟩
  go_wp2_with fail
  refine (panicIfNull_any _ _).mono ?_; rintro e w' ⟨rfl, rfl⟩
  go_wp2_with fail
  refine (wordCount_any HY.out.dirty (by omega)).mono ?_; rintro e w' ⟨rfl, rfl⟩
  go_wp2_with fail
  refine (wordCount_any HX.out.dirty (by omega)).mono ?_; rintro e w' ⟨rfl, rfl⟩
  go_wp2_with fail
  have g1 : decide (0 < ly) = true := by apply decide_eq_true; omega
  obtain ⟨m, hm⟩ : ∃ m : Nat, m = ly - 1 := ⟨_, rfl⟩
  have g2 : (ly : Int) - 1 = (m : Int) := by omega
  have g3 : m < lx := by omega
  have g4 : decide (lx ≤ m) = false := decide_eq_false (by omega)
  have HM := Lib.hid hm
  clear hm
  go_quiet (fail)
  obtain ⟨w2, hw2⟩ : ∃ w2, w2 = w.drewN nq := ⟨_, rfl⟩
  have HX2 : Hid (BSet w2 px bx nx cx lx fx) := by rw [hw2]; exact HX.out.drewN nq
  have HY2 : Hid (BSet w2 py bY ny cy ly fy) := by rw [hw2]; exact HY.out.drewN nq
  have HO : Hid (Only [px, bx] w w2) := by rw [hw2]; exact (Only.refl _ _).drewN nq
  have HP2 := HP
  rw [← hw2]
  clear hw2 x0 x1 y0 y1
  have z1 := HX2.out.set_cell
  have z2 := HY2.out.set_cell
  obtain ⟨j, hj⟩ : ∃ j : Nat, (j : Int) = (ny : Int) - 1 := ⟨ny - 1, by omega⟩
  have j1 : (ny : Int) - 1 = (j : Int) := hj.symm
  have j2 : j < ny := by omega
  have j3 : j < nx := by omega
  have z3 := HX2.out.word j3
  have z4 := HY2.out.word j2
  clear hj
  go_wp2_with fail
  go_quiet (fail)
  go_wp2_with fail
  clear z1 z2 z3 z4 j1 j2 j3
  go_loopw [7] (fun iv wr => ∃ k : Nat, k ≤ ny ∧ iv = .int .i64 k ∧ Hid (BDirty wr px bx nx cx lx (upto k (fun i => wXor (fx i) (fy i)) fx) ∧ Only [px, bx] w2 wr)) (fun iv _ => ny - (intOf iv).toNat)
  case atStart => exact ⟨0, by omega, rfl, by rw [upto_zero]; exact HX2.out.dirty.drewN _, (Only.refl _ _).drewN _⟩
  case round =>
    obtain ⟨k, hk, rfl, hR⟩ := hrel
    have HR : Hid (BDirty wr px bx nx cx lx (upto k (fun i => wXor (fx i) (fy i)) fx) ∧ Only [px, bx] w2 wr) := hR
    clear hR
    have HY3 := Lib.hid (HY2.out.only HR.out.2 (by have := HP2.out; unfold Apart at this; simp; omega) (by have := HP2.out; unfold Apart at this; simp; omega))
    by_cases hkn : k < ny
    · have c1 := HY3.out.word (i := k) (by omega)
      have c2 : wr.cell? ⟨bx, k, none⟩ = some (.int .u64 (fx k)) := by
        have := HR.out.1.word (i := k) (by omega)
        rwa [upto_at] at this
      have c3 := HR.out.1.wd.free k
      go_wp2_with fail
      have k0 : (0 : Int) ≤ (k : Int) := by omega
      have k1 : (k : Int) < (nx : Int) := by omega
      have k2 : (k : Int) < (ny : Int) := by omega
      refine wp_region_still_tail 10 (by kernel_rfl) (by kernel_rfl) ?_
      simp only [List.take_succ_cons, List.take_zero, List.drop_succ_cons, List.drop_zero]
      repeat still_step
      refine wpStill_nil ?_
      change wpList _ _ _ _ _ wr.drew
      have HE := Lib.hid (wXor_I (fx k) (fy k) (HX2.out.small _) (HY2.out.small _))
      rw [HE.out]
      clear k0 k1 k2
      go_wp2_with fail
      go_roundw
      case rel =>
        refine ⟨k + 1, by omega, by go_num, ?_, (HR.out.2.drewN 1).setCell (Or.inl (by simp)) _⟩
        have := (HR.out.1.drewN 1).store k _ (wXor_lt (HX2.out.small k) (HY2.out.small k))
        rwa [upto_step k (fun i => wXor (fx i) (fy i)) fx] at this
      case measure => simp [intOf]; omega
    · have hkk : k = ny := by omega
      have HK := Lib.hid hkk
      clear hkk
      have c1 := HY3.out.set_cell
      have HR2 : Hid (BDirty wr px bx nx cx lx (upto ny (fun i => wXor (fx i) (fy i)) fx) ∧ Only [px, bx] w2 wr) := by have := HR.out; rwa [HK.out] at this
      go_wp2_with fail
      go_end0
      have hd := HR.out.1
      rw [HK.out] at hd
      refine ⟨rfl, _, hd.whole (fun i h1 h2 => ?_), fun i hi => ?_, HO.out.trans HR.out.2⟩
      · unfold upto
        have h3 := HX2.out.clean i h1 h2
        split
        · have h4 := HY2.out.clean i (by omega) (by omega)
          show (wXor (fx (i / 64)) (fy (i / 64))).testBit (i % 64) = false
          rw [wXor_tb, h3, h4]; rfl
        · exact h3
      · unfold upto
        rfl

set_option maxRecDepth 100000 in
set_option maxHeartbeats 1000000 in
theorem ipu_B0 {w : World} {px bx nx cx lx py bY ny cy ly : Nat} {fx fy : Nat → Nat} (hx : BSet w px bx nx cx lx fx) (hy : BSet w py bY ny cy ly fy) (hap : Apart px bx py bY) (hle : ly ≤ lx) (hpos : ny = 0) (hl : ly ≤ 100000) (hlx : lx ≤ 100000) (_hcx : cx ≤ 200000) :
    Calls Try.prog 66 #[.pointer (some ⟨px, 0, none⟩), .pointer (some ⟨py, 0, none⟩)] w fun e w' => e = .returned (.tuple #[]) ∧ ∃ g, BSet w' px bx nx cx lx g ∧ (∀ i, i < nx → g i = if i < ny then wOr (fx i) (fy i) else fx i) ∧ Only [px, bx] w w' := by
  have hnl : ny ≤ nx := by rw [hx.n_eq, hy.n_eq]; unfold wn; omega
  have hnf : decide (nx < ny) = false := decide_eq_false (by omega)
  have hl0 : ly = 0 := by have := hy.n_eq; unfold wn at this; omega
  have x0 := hx.len_cell
  have x1 := hx.set_cell
  have y0 := hy.len_cell
  have y1 := hy.set_cell
  have hnx : nx ≤ 20000 := by rw [hx.n_eq]; unfold wn; omega
  have hny : ny ≤ 20000 := by rw [hy.n_eq]; unfold wn; omega
  have HX := Lib.hid hx
  have HY := Lib.hid hy
  have HP := Lib.hid hap
  clear hx hy hap
  go_enter Try.func66, Try.ntmps66
  go_wp2_with fail
  refine (panicIfNull_any _ _).mono ?_; rintro e w' ⟨rfl, rfl⟩
  go_wp2_with fail
  refine (panicIfNull_any _ _).mono ?_; rintro e w' ⟨rfl, rfl⟩
  go_wp2_with fail
  refine (wordCount_any HY.out.dirty (by omega)).mono ?_; rintro e w' ⟨rfl, rfl⟩
  go_wp2_with fail
  refine (wordCount_any HX.out.dirty (by omega)).mono ?_; rintro e w' ⟨rfl, rfl⟩
  go_wp2_with fail
  have g1 : decide (0 < ly) = false := by apply decide_eq_false; omega
  go_quiet (fail)
  obtain ⟨w2, hw2⟩ : ∃ w2, w2 = w.drewN nq := ⟨_, rfl⟩
  have HX2 : Hid (BSet w2 px bx nx cx lx fx) := by rw [hw2]; exact HX.out.drewN nq
  have HY2 : Hid (BSet w2 py bY ny cy ly fy) := by rw [hw2]; exact HY.out.drewN nq
  have HO : Hid (Only [px, bx] w w2) := by rw [hw2]; exact (Only.refl _ _).drewN nq
  have HP2 := HP
  rw [← hw2]
  clear hw2 x0 x1 y0 y1
  have z1 := HX2.out.set_cell
  have z2 := HY2.out.set_cell
  go_wp2_with fail
  go_end0
  refine ⟨rfl, fx, HX2.out, fun i hi => ?_, HO.out⟩
  rw [if_neg (by omega)]

set_option maxRecDepth 100000 in
set_option maxHeartbeats 1000000 in
theorem ips_B0 {w : World} {px bx nx cx lx py bY ny cy ly : Nat} {fx fy : Nat → Nat} (hx : BSet w px bx nx cx lx fx) (hy : BSet w py bY ny cy ly fy) (hap : Apart px bx py bY) (hle : ly ≤ lx) (hpos : ny = 0) (hl : ly ≤ 100000) (hlx : lx ≤ 100000) (_hcx : cx ≤ 200000) :
    Calls Try.prog 69 #[.pointer (some ⟨px, 0, none⟩), .pointer (some ⟨py, 0, none⟩)] w fun e w' => e = .returned (.tuple #[]) ∧ ∃ g, BSet w' px bx nx cx lx g ∧ (∀ i, i < nx → g i = if i < ny then wXor (fx i) (fy i) else fx i) ∧ Only [px, bx] w w' := by
  have hnl : ny ≤ nx := by rw [hx.n_eq, hy.n_eq]; unfold wn; omega
  have hnf : decide (nx < ny) = false := decide_eq_false (by omega)
  have hl0 : ly = 0 := by have := hy.n_eq; unfold wn at this; omega
  have x0 := hx.len_cell
  have x1 := hx.set_cell
  have y0 := hy.len_cell
  have y1 := hy.set_cell
  have hnx : nx ≤ 20000 := by rw [hx.n_eq]; unfold wn; omega
  have hny : ny ≤ 20000 := by rw [hy.n_eq]; unfold wn; omega
  have HX := Lib.hid hx
  have HY := Lib.hid hy
  have HP := Lib.hid hap
  clear hx hy hap
  go_enter Try.func69, Try.ntmps69
  go_wp2_with fail
  refine (panicIfNull_any _ _).mono ?_; rintro e w' ⟨rfl, rfl⟩
  go_wp2_with fail
  refine (panicIfNull_any _ _).mono ?_; rintro e w' ⟨rfl, rfl⟩
  go_wp2_with fail
  refine (wordCount_any HY.out.dirty (by omega)).mono ?_; rintro e w' ⟨rfl, rfl⟩
  go_wp2_with fail
  refine (wordCount_any HX.out.dirty (by omega)).mono ?_; rintro e w' ⟨rfl, rfl⟩
  go_wp2_with fail
  have g1 : decide (0 < ly) = false := by apply decide_eq_false; omega
  go_quiet (fail)
  obtain ⟨w2, hw2⟩ : ∃ w2, w2 = w.drewN nq := ⟨_, rfl⟩
  have HX2 : Hid (BSet w2 px bx nx cx lx fx) := by rw [hw2]; exact HX.out.drewN nq
  have HY2 : Hid (BSet w2 py bY ny cy ly fy) := by rw [hw2]; exact HY.out.drewN nq
  have HO : Hid (Only [px, bx] w w2) := by rw [hw2]; exact (Only.refl _ _).drewN nq
  have HP2 := HP
  rw [← hw2]
  clear hw2 x0 x1 y0 y1
  have z1 := HX2.out.set_cell
  have z2 := HY2.out.set_cell
  go_wp2_with fail
  go_end0
  refine ⟨rfl, fx, HX2.out, fun i hi => ?_, HO.out⟩
  rw [if_neg (by omega)]

set_option maxRecDepth 100000 in
set_option maxHeartbeats 1000000 in
theorem ipi_G1 {w : World} {px bx nx cx lx py bY ny cy ly : Nat} {fx fy : Nat → Nat} (hx : BSet w px bx nx cx lx fx) (hy : BSet w py bY ny cy ly fy) (hap : Apart px bx py bY) (hlt : lx < ly) (hn : nx < ny) (hpos : 0 < nx) (hl : ly ≤ 100000) (hlx : lx ≤ 100000) (hcx : cx ≤ 200000) :
    Calls Try.prog 67 #[.pointer (some ⟨px, 0, none⟩), .pointer (some ⟨py, 0, none⟩)] w fun e w' => e = .returned (.tuple #[]) ∧ ∃ b2 c2 g, BSet w' px b2 ny c2 ly g ∧ (∀ i, i < ny → g i = if i < nx then wAnd (fx i) (fy i) else 0) ∧ Only [px, bx] w w' ∧ (b2 = bx ∨ w.heap.size ≤ b2) ∧ c2 ≤ 200000 := by
  have x1 := hx.set_cell
  have y1 := hy.set_cell
  have hnx : nx ≤ 20000 := by rw [hx.n_eq]; unfold wn; omega
  have hny : ny ≤ 20000 := by rw [hy.n_eq]; unfold wn; omega
  have HX := Lib.hid hx
  have HY := Lib.hid hy
  have HP := Lib.hid hap
  clear hx hy hap
  go_enter Try.func67, Try.ntmps67
  go_wp2_with fail
  refine (panicIfNull_any _ _).mono ?_; rintro e w' ⟨rfl, rfl⟩
  go_wp2_with fail
  refine (panicIfNull_any _ _).mono ?_; rintro e w' ⟨rfl, rfl⟩
  go_wp2_with fail
  refine (wordCount_any HY.out.dirty (by omega)).mono ?_; rintro e w' ⟨rfl, rfl⟩
  go_wp2_with fail
  refine (wordCount_any HX.out.dirty (by omega)).mono ?_; rintro e w' ⟨rfl, rfl⟩
  go_wp2_with fail
  refine (wordCount_any HX.out.dirty (by omega)).mono ?_; rintro e w' ⟨rfl, rfl⟩
  go_wp2_with fail
  obtain ⟨j, hj⟩ : ∃ j : Nat, (j : Int) = (nx : Int) - 1 := ⟨nx - 1, by omega⟩
  have j1 : (nx : Int) - 1 = (j : Int) := hj.symm
  have j2 : j < ny := by omega
  have j3 : j < nx := by omega
  have z3 := HX.out.word j3
  have z4 := HY.out.word j2
  clear hj
  go_quiet (fail)
  go_wp2_with fail
  clear x1 y1 z3 z4 j1 j2 j3
  go_loopw [7] (fun iv wr => ∃ k : Nat, k ≤ nx ∧ iv = .int .i64 k ∧ Hid (BDirty wr px bx nx cx lx (upto k (fun i => wAnd (fx i) (fy i)) fx) ∧ Only [px, bx] w wr)) (fun iv _ => nx - (intOf iv).toNat)
  case atStart => exact ⟨0, by omega, rfl, by rw [upto_zero]; exact HX.out.dirty.drewN _, (Only.refl _ _).drewN _⟩
  case round =>
    obtain ⟨k, hk, rfl, hR⟩ := hrel
    have HR : Hid (BDirty wr px bx nx cx lx (upto k (fun i => wAnd (fx i) (fy i)) fx) ∧ Only [px, bx] w wr) := hR
    clear hR
    have HY3 := Lib.hid (HY.out.only HR.out.2 (by have := HP.out; unfold Apart at this; simp; omega) (by have := HP.out; unfold Apart at this; simp; omega))
    by_cases hkn : k < nx
    · have c1 := HY3.out.word (i := k) (by omega)
      have c2 : wr.cell? ⟨bx, k, none⟩ = some (.int .u64 (fx k)) := by
        have := HR.out.1.word (i := k) (by omega)
        rwa [upto_at] at this
      have c3 := HR.out.1.wd.free k
      go_wp2_with fail
      have k0 : (0 : Int) ≤ (k : Int) := by omega
      have k1 : (k : Int) < (nx : Int) := by omega
      have k2 : (k : Int) < (ny : Int) := by omega
      refine wp_region_still_tail 10 (by kernel_rfl) (by kernel_rfl) ?_
      simp only [List.take_succ_cons, List.take_zero, List.drop_succ_cons, List.drop_zero]
      repeat still_step
      refine wpStill_nil ?_
      change wpList _ _ _ _ _ wr.drew
      have HE := Lib.hid (wAnd_I (fx k) (fy k) (HX.out.small _) (HY.out.small _))
      rw [HE.out]
      clear k0 k1 k2
      go_wp2_with fail
      go_roundw
      case rel =>
        refine ⟨k + 1, by omega, by go_num, ?_, (HR.out.2.drewN 1).setCell (Or.inl (by simp)) _⟩
        have := (HR.out.1.drewN 1).store k _ (wAnd_lt (HX.out.small k) (HY.out.small k))
        rwa [upto_step k (fun i => wAnd (fx i) (fy i)) fx] at this
      case measure => simp [intOf]; omega
    · have hkk : k = nx := by omega
      have HK := Lib.hid hkk
      clear hkk
      have HR2 : Hid (BDirty wr px bx nx cx lx (upto nx (fun i => wAnd (fx i) (fy i)) fx) ∧ Only [px, bx] w wr) := by have := HR.out; rwa [HK.out] at this
      go_wp2_with fail
      go_loopw [8] (fun iv wr => ∃ k : Nat, nx ≤ k ∧ k ≤ nx ∧ iv = .int .i64 k ∧ Hid (BDirty wr px bx nx cx lx (upto k (fun i => if i < nx then wAnd (fx i) (fy i) else 0) fx) ∧ Only [px, bx] w wr)) (fun iv _ => nx - (intOf iv).toNat)
      case atStart => exact ⟨nx, Nat.le_refl _, by omega, rfl, by rw [upto_swap nx (fun i => if i < nx then wAnd (fx i) (fy i) else 0) (fun i => wAnd (fx i) (fy i)) fx (fun i hi => if_pos hi)]; exact HR2.out.1, HR2.out.2⟩
      case round =>
        obtain ⟨k, hkx, hk, rfl, hR⟩ := hrel
        have HR : Hid (BDirty wr px bx nx cx lx (upto k (fun i => if i < nx then wAnd (fx i) (fy i) else 0) fx) ∧ Only [px, bx] w wr) := hR
        clear hR
        have d3 := HR.out.1.set_cell
        by_cases hkn : k < nx
        · exfalso; omega
        · have hkk : k = nx := by omega
          have HK := Lib.hid hkk
          clear hkk
          have hd := HR.out.1
          rw [HK.out] at hd
          have HW : Hid (BSet wr px bx nx cx lx (upto nx (fun i => if i < nx then wAnd (fx i) (fy i) else 0) fx)) := hd.whole (fun i h1 h2 => by
            unfold upto
            rw [if_pos (show i / 64 < nx by omega)]
            have h3 := HX.out.clean i h1 h2
            show (((fun i => if i < nx then wAnd (fx i) (fy i) else 0)) (i / 64)).testBit (i % 64) = false
            try simp only []
            split
            · rw [wAnd_tb, h3]; rfl
            · exact Nat.zero_testBit _)
          have HY4 := Lib.hid (HY.out.only HR.out.2 (by have := HP.out; unfold Apart at this; simp; omega) (by have := HP.out; unfold Apart at this; simp; omega))
          have y2 := HY4.out.len_cell
          have x2 := HW.out.len_cell
          clear hd
          have g1 : decide (0 < ly) = true := by apply decide_eq_true; omega
          obtain ⟨m, hm⟩ : ∃ m : Nat, m = ly - 1 := ⟨_, rfl⟩
          have g2 : (ly : Int) - 1 = (m : Int) := by omega
          have g3 : lx ≤ m := by omega
          have g4 : decide (lx ≤ m) = true := decide_eq_true g3
          have HM := Lib.hid hm
          clear hm
          go_wp2_with fail
          go_quiet (fail)
          go_wp2_with fail
          refine (extend_words (HW.out.drewN nq) m g3 (by have := HM.out; omega) hcx).mono ?_
          rintro e w2 ⟨rfl, b2, c2, g0, hB, hg, ho, hb, hc⟩
          have hm1 : m + 1 = ly := by have := HM.out; omega
          rw [hm1, ← HY.out.n_eq] at hB
          rw [hm1, ← HY.out.n_eq] at hg
          clear hm1
          have HG := Lib.hid hg
          have HC := Lib.hid hc
          have hO : Only [px, bx] w w2 := HR.out.2.trans (((Only.refl _ _).drewN nq).trans ho)
          have hsz : w.heap.size ≤ (wr.drewN nq).heap.size := HR.out.2.size
          have HB : Hid (b2 = bx ∨ w.heap.size ≤ b2) := by
            rcases hb with h | h
            · exact Or.inl h
            · exact Or.inr (by omega)
          have HX2 := Lib.hid hB
          have HO := Lib.hid hO
          clear hg hc ho hb hO hB hsz
          go_wp2_with fail
          go_end0
          refine ⟨rfl, b2, c2, g0, HX2.out, fun i hi => ?_, HO.out, HB.out, HC.out⟩
          have h3 := HG.out i hi
          rw [h3]
          by_cases hin : i < nx
          · rw [if_pos hin, if_pos hin]
            unfold upto
            rw [if_pos hin]
            exact if_pos (by omega)
          · rw [if_neg hin, if_neg hin]

set_option maxRecDepth 100000 in
set_option maxHeartbeats 1000000 in
theorem ipi_G0 {w : World} {px bx nx cx lx py bY ny cy ly : Nat} {fx fy : Nat → Nat} (hx : BSet w px bx nx cx lx fx) (hy : BSet w py bY ny cy ly fy) (hap : Apart px bx py bY) (hlt : lx < ly) (hn : nx < ny) (hpos : nx = 0) (hl : ly ≤ 100000) (hlx : lx ≤ 100000) (hcx : cx ≤ 200000) :
    Calls Try.prog 67 #[.pointer (some ⟨px, 0, none⟩), .pointer (some ⟨py, 0, none⟩)] w fun e w' => e = .returned (.tuple #[]) ∧ ∃ b2 c2 g, BSet w' px b2 ny c2 ly g ∧ (∀ i, i < ny → g i = if i < nx then wAnd (fx i) (fy i) else 0) ∧ Only [px, bx] w w' ∧ (b2 = bx ∨ w.heap.size ≤ b2) ∧ c2 ≤ 200000 := by
  have hz : decide (0 < nx) = false := decide_eq_false (by omega)
  have HZ := Lib.hid hpos
  clear hpos
  have x1 := hx.set_cell
  have y1 := hy.set_cell
  have hnx : nx ≤ 20000 := by rw [hx.n_eq]; unfold wn; omega
  have hny : ny ≤ 20000 := by rw [hy.n_eq]; unfold wn; omega
  have HX := Lib.hid hx
  have HY := Lib.hid hy
  have HP := Lib.hid hap
  clear hx hy hap
  go_enter Try.func67, Try.ntmps67
  go_wp2_with fail
  refine (panicIfNull_any _ _).mono ?_; rintro e w' ⟨rfl, rfl⟩
  go_wp2_with fail
  refine (panicIfNull_any _ _).mono ?_; rintro e w' ⟨rfl, rfl⟩
  go_wp2_with fail
  refine (wordCount_any HY.out.dirty (by omega)).mono ?_; rintro e w' ⟨rfl, rfl⟩
  go_wp2_with fail
  refine (wordCount_any HX.out.dirty (by omega)).mono ?_; rintro e w' ⟨rfl, rfl⟩
  go_wp2_with fail
  refine (wordCount_any HX.out.dirty (by omega)).mono ?_; rintro e w' ⟨rfl, rfl⟩
  go_wp2_with fail
  clear x1 y1
  go_loopw [8] (fun iv wr => ∃ k : Nat, nx ≤ k ∧ k ≤ nx ∧ iv = .int .i64 k ∧ Hid (BDirty wr px bx nx cx lx (upto k (fun i => if i < nx then wAnd (fx i) (fy i) else 0) fx) ∧ Only [px, bx] w wr)) (fun iv _ => nx - (intOf iv).toNat)
  case atStart => exact ⟨nx, Nat.le_refl _, by omega, rfl, by rw [show upto nx (fun i => if i < nx then wAnd (fx i) (fy i) else 0) fx = fx from by have := HZ.out; funext i; unfold upto; exact if_neg (by omega)]; exact HX.out.dirty, Only.refl _ _⟩
  case round =>
    obtain ⟨k, hkx, hk, rfl, hR⟩ := hrel
    have HR : Hid (BDirty wr px bx nx cx lx (upto k (fun i => if i < nx then wAnd (fx i) (fy i) else 0) fx) ∧ Only [px, bx] w wr) := hR
    clear hR
    have d3 := HR.out.1.set_cell
    by_cases hkn : k < nx
    · exfalso; omega
    · have hkk : k = nx := by omega
      have HK := Lib.hid hkk
      clear hkk
      have hd := HR.out.1
      rw [HK.out] at hd
      have HW : Hid (BSet wr px bx nx cx lx (upto nx (fun i => if i < nx then wAnd (fx i) (fy i) else 0) fx)) := hd.whole (fun i h1 h2 => by
        unfold upto
        rw [if_pos (show i / 64 < nx by omega)]
        have h3 := HX.out.clean i h1 h2
        show (((fun i => if i < nx then wAnd (fx i) (fy i) else 0)) (i / 64)).testBit (i % 64) = false
        try simp only []
        split
        · rw [wAnd_tb, h3]; rfl
        · exact Nat.zero_testBit _)
      have HY4 := Lib.hid (HY.out.only HR.out.2 (by have := HP.out; unfold Apart at this; simp; omega) (by have := HP.out; unfold Apart at this; simp; omega))
      have y2 := HY4.out.len_cell
      have x2 := HW.out.len_cell
      clear hd
      have g1 : decide (0 < ly) = true := by apply decide_eq_true; omega
      obtain ⟨m, hm⟩ : ∃ m : Nat, m = ly - 1 := ⟨_, rfl⟩
      have g2 : (ly : Int) - 1 = (m : Int) := by omega
      have g3 : lx ≤ m := by omega
      have g4 : decide (lx ≤ m) = true := decide_eq_true g3
      have HM := Lib.hid hm
      clear hm
      go_wp2_with fail
      go_quiet (fail)
      go_wp2_with fail
      refine (extend_words (HW.out.drewN nq) m g3 (by have := HM.out; omega) hcx).mono ?_
      rintro e w2 ⟨rfl, b2, c2, g0, hB, hg, ho, hb, hc⟩
      have hm1 : m + 1 = ly := by have := HM.out; omega
      rw [hm1, ← HY.out.n_eq] at hB
      rw [hm1, ← HY.out.n_eq] at hg
      clear hm1
      have HG := Lib.hid hg
      have HC := Lib.hid hc
      have hO : Only [px, bx] w w2 := HR.out.2.trans (((Only.refl _ _).drewN nq).trans ho)
      have hsz : w.heap.size ≤ (wr.drewN nq).heap.size := HR.out.2.size
      have HB : Hid (b2 = bx ∨ w.heap.size ≤ b2) := by
        rcases hb with h | h
        · exact Or.inl h
        · exact Or.inr (by omega)
      have HX2 := Lib.hid hB
      have HO := Lib.hid hO
      clear hg hc ho hb hO hB hsz
      go_wp2_with fail
      go_end0
      refine ⟨rfl, b2, c2, g0, HX2.out, fun i hi => ?_, HO.out, HB.out, HC.out⟩
      have h3 := HG.out i hi
      rw [h3]
      by_cases hin : i < nx
      · rw [if_pos hin, if_pos hin]
        unfold upto
        rw [if_pos hin]
        exact if_pos (by omega)
      · rw [if_neg hin, if_neg hin]

set_option maxRecDepth 100000 in
set_option maxHeartbeats 1000000 in
theorem ipi_G2 {w : World} {px bx nx cx lx py bY ny cy ly : Nat} {fx fy : Nat → Nat} (hx : BSet w px bx nx cx lx fx) (hy : BSet w py bY ny cy ly fy) (hap : Apart px bx py bY) (hlt : lx < ly) (hn : nx = ny) (hl : ly ≤ 100000) (hlx : lx ≤ 100000) (hcx : cx ≤ 200000) :
    Calls Try.prog 67 #[.pointer (some ⟨px, 0, none⟩), .pointer (some ⟨py, 0, none⟩)] w fun e w' => e = .returned (.tuple #[]) ∧ ∃ b2 c2 g, BSet w' px b2 ny c2 ly g ∧ (∀ i, i < ny → g i = if i < nx then wAnd (fx i) (fy i) else 0) ∧ Only [px, bx] w w' ∧ (b2 = bx ∨ w.heap.size ≤ b2) ∧ c2 ≤ 200000 := by
  obtain rfl := hn.symm
  have hpos : 0 < ny := by have := hy.n_eq; unfold wn at this; omega
  have x1 := hx.set_cell
  have y1 := hy.set_cell
  have hnx : ny ≤ 20000 := by rw [hx.n_eq]; unfold wn; omega
  have hny : ny ≤ 20000 := by rw [hy.n_eq]; unfold wn; omega
  have HX := Lib.hid hx
  have HY := Lib.hid hy
  have HP := Lib.hid hap
  clear hx hy hap
  go_enter Try.func67, Try.ntmps67
  go_wp2_with fail
  refine (panicIfNull_any _ _).mono ?_; rintro e w' ⟨rfl, rfl⟩
  go_wp2_with fail
  refine (panicIfNull_any _ _).mono ?_; rintro e w' ⟨rfl, rfl⟩
  go_wp2_with fail
  refine (wordCount_any HY.out.dirty (by omega)).mono ?_; rintro e w' ⟨rfl, rfl⟩
  go_wp2_with fail
  refine (wordCount_any HX.out.dirty (by omega)).mono ?_; rintro e w' ⟨rfl, rfl⟩
  go_wp2_with fail
  obtain ⟨j, hj⟩ : ∃ j : Nat, (j : Int) = (ny : Int) - 1 := ⟨ny - 1, by omega⟩
  have j1 : (ny : Int) - 1 = (j : Int) := hj.symm
  have j2 : j < ny := by omega
  have j3 : j < ny := by omega
  have z3 := HX.out.word j3
  have z4 := HY.out.word j2
  clear hj
  go_quiet (fail)
  go_wp2_with fail
  clear x1 y1 z3 z4 j1 j2 j3
  go_loopw [7] (fun iv wr => ∃ k : Nat, k ≤ ny ∧ iv = .int .i64 k ∧ Hid (BDirty wr px bx ny cx lx (upto k (fun i => wAnd (fx i) (fy i)) fx) ∧ Only [px, bx] w wr)) (fun iv _ => ny - (intOf iv).toNat)
  case atStart => exact ⟨0, by omega, rfl, by rw [upto_zero]; exact HX.out.dirty.drewN _, (Only.refl _ _).drewN _⟩
  case round =>
    obtain ⟨k, hk, rfl, hR⟩ := hrel
    have HR : Hid (BDirty wr px bx ny cx lx (upto k (fun i => wAnd (fx i) (fy i)) fx) ∧ Only [px, bx] w wr) := hR
    clear hR
    have HY3 := Lib.hid (HY.out.only HR.out.2 (by have := HP.out; unfold Apart at this; simp; omega) (by have := HP.out; unfold Apart at this; simp; omega))
    by_cases hkn : k < ny
    · have c1 := HY3.out.word (i := k) (by omega)
      have c2 : wr.cell? ⟨bx, k, none⟩ = some (.int .u64 (fx k)) := by
        have := HR.out.1.word (i := k) (by omega)
        rwa [upto_at] at this
      have c3 := HR.out.1.wd.free k
      go_wp2_with fail
      have k0 : (0 : Int) ≤ (k : Int) := by omega
      have k1 : (k : Int) < (ny : Int) := by omega
      have k2 : (k : Int) < (ny : Int) := by omega
      refine wp_region_still_tail 10 (by kernel_rfl) (by kernel_rfl) ?_
      simp only [List.take_succ_cons, List.take_zero, List.drop_succ_cons, List.drop_zero]
      repeat still_step
      refine wpStill_nil ?_
      change wpList _ _ _ _ _ wr.drew
      have HE := Lib.hid (wAnd_I (fx k) (fy k) (HX.out.small _) (HY.out.small _))
      rw [HE.out]
      clear k0 k1 k2
      go_wp2_with fail
      go_roundw
      case rel =>
        refine ⟨k + 1, by omega, by go_num, ?_, (HR.out.2.drewN 1).setCell (Or.inl (by simp)) _⟩
        have := (HR.out.1.drewN 1).store k _ (wAnd_lt (HX.out.small k) (HY.out.small k))
        rwa [upto_step k (fun i => wAnd (fx i) (fy i)) fx] at this
      case measure => simp [intOf]; omega
    · have hkk : k = ny := by omega
      have HK := Lib.hid hkk
      clear hkk
      have HR2 : Hid (BDirty wr px bx ny cx lx (upto ny (fun i => wAnd (fx i) (fy i)) fx) ∧ Only [px, bx] w wr) := by have := HR.out; rwa [HK.out] at this
      go_wp2_with fail
      go_loopw [8] (fun iv wr => ∃ k : Nat, ny ≤ k ∧ k ≤ ny ∧ iv = .int .i64 k ∧ Hid (BDirty wr px bx ny cx lx (upto k (fun i => if i < ny then wAnd (fx i) (fy i) else 0) fx) ∧ Only [px, bx] w wr)) (fun iv _ => ny - (intOf iv).toNat)
      case atStart => exact ⟨ny, Nat.le_refl _, by omega, rfl, by rw [upto_swap ny (fun i => if i < ny then wAnd (fx i) (fy i) else 0) (fun i => wAnd (fx i) (fy i)) fx (fun i hi => if_pos hi)]; exact HR2.out.1, HR2.out.2⟩
      case round =>
        obtain ⟨k, hkx, hk, rfl, hR⟩ := hrel
        have HR : Hid (BDirty wr px bx ny cx lx (upto k (fun i => if i < ny then wAnd (fx i) (fy i) else 0) fx) ∧ Only [px, bx] w wr) := hR
        clear hR
        have d3 := HR.out.1.set_cell
        by_cases hkn : k < ny
        · exfalso; omega
        · have hkk : k = ny := by omega
          have HK := Lib.hid hkk
          clear hkk
          have hd := HR.out.1
          rw [HK.out] at hd
          have HW : Hid (BSet wr px bx ny cx lx (upto ny (fun i => if i < ny then wAnd (fx i) (fy i) else 0) fx)) := hd.whole (fun i h1 h2 => by
            unfold upto
            rw [if_pos (show i / 64 < ny by omega)]
            have h3 := HX.out.clean i h1 h2
            show (((fun i => if i < ny then wAnd (fx i) (fy i) else 0)) (i / 64)).testBit (i % 64) = false
            try simp only []
            split
            · rw [wAnd_tb, h3]; rfl
            · exact Nat.zero_testBit _)
          have HY4 := Lib.hid (HY.out.only HR.out.2 (by have := HP.out; unfold Apart at this; simp; omega) (by have := HP.out; unfold Apart at this; simp; omega))
          have y2 := HY4.out.len_cell
          have x2 := HW.out.len_cell
          clear hd
          have g1 : decide (0 < ly) = true := by apply decide_eq_true; omega
          obtain ⟨m, hm⟩ : ∃ m : Nat, m = ly - 1 := ⟨_, rfl⟩
          have g2 : (ly : Int) - 1 = (m : Int) := by omega
          have g3 : lx ≤ m := by omega
          have g4 : decide (lx ≤ m) = true := decide_eq_true g3
          have HM := Lib.hid hm
          clear hm
          go_wp2_with fail
          go_quiet (fail)
          go_wp2_with fail
          refine (extend_words (HW.out.drewN nq) m g3 (by have := HM.out; omega) hcx).mono ?_
          rintro e w2 ⟨rfl, b2, c2, g0, hB, hg, ho, hb, hc⟩
          have hm1 : m + 1 = ly := by have := HM.out; omega
          rw [hm1, ← HY.out.n_eq] at hB
          rw [hm1, ← HY.out.n_eq] at hg
          clear hm1
          have HG := Lib.hid hg
          have HC := Lib.hid hc
          have hO : Only [px, bx] w w2 := HR.out.2.trans (((Only.refl _ _).drewN nq).trans ho)
          have hsz : w.heap.size ≤ (wr.drewN nq).heap.size := HR.out.2.size
          have HB : Hid (b2 = bx ∨ w.heap.size ≤ b2) := by
            rcases hb with h | h
            · exact Or.inl h
            · exact Or.inr (by omega)
          have HX2 := Lib.hid hB
          have HO := Lib.hid hO
          clear hg hc ho hb hO hB hsz
          go_wp2_with fail
          go_end0
          refine ⟨rfl, b2, c2, g0, HX2.out, fun i hi => ?_, HO.out, HB.out, HC.out⟩
          have h3 := HG.out i hi
          rw [h3]
          by_cases hin : i < ny
          · rw [if_pos hin, if_pos hin]
            unfold upto
            rw [if_pos hin]
            exact if_pos (by omega)
          · rw [if_neg hin, if_neg hin]

set_option maxRecDepth 100000 in
set_option maxHeartbeats 1000000 in
theorem ipi_B1 {w : World} {px bx nx cx lx py bY ny cy ly : Nat} {fx fy : Nat → Nat} (hx : BSet w px bx nx cx lx fx) (hy : BSet w py bY ny cy ly fy) (hap : Apart px bx py bY) (hle : ly ≤ lx) (hpos : 0 < ny) (hl : ly ≤ 100000) (hlx : lx ≤ 100000) (_hcx : cx ≤ 200000) :
    Calls Try.prog 67 #[.pointer (some ⟨px, 0, none⟩), .pointer (some ⟨py, 0, none⟩)] w fun e w' => e = .returned (.tuple #[]) ∧ ∃ g, BSet w' px bx nx cx lx g ∧ (∀ i, i < nx → g i = if i < ny then wAnd (fx i) (fy i) else 0) ∧ Only [px, bx] w w' := by
  have hnl : ny ≤ nx := by rw [hx.n_eq, hy.n_eq]; unfold wn; omega
  have hnf : decide (nx < ny) = false := decide_eq_false (by omega)
  have hl0 : 0 < ly := by have := hy.n_eq; unfold wn at this; omega
  have x1 := hx.set_cell
  have y1 := hy.set_cell
  have hnx : nx ≤ 20000 := by rw [hx.n_eq]; unfold wn; omega
  have hny : ny ≤ 20000 := by rw [hy.n_eq]; unfold wn; omega
  have HX := Lib.hid hx
  have HY := Lib.hid hy
  have HP := Lib.hid hap
  clear hx hy hap
  go_enter Try.func67, Try.ntmps67
  go_wp2_with fail
  refine (panicIfNull_any _ _).mono ?_; rintro e w' ⟨rfl, rfl⟩
  go_wp2_with fail
  refine (panicIfNull_any _ _).mono ?_; rintro e w' ⟨rfl, rfl⟩
  go_wp2_with fail
  refine (wordCount_any HY.out.dirty (by omega)).mono ?_; rintro e w' ⟨rfl, rfl⟩
  go_wp2_with fail
  refine (wordCount_any HX.out.dirty (by omega)).mono ?_; rintro e w' ⟨rfl, rfl⟩
  go_wp2_with fail
  obtain ⟨j, hj⟩ : ∃ j : Nat, (j : Int) = (ny : Int) - 1 := ⟨ny - 1, by omega⟩
  have j1 : (ny : Int) - 1 = (j : Int) := hj.symm
  have j2 : j < ny := by omega
  have j3 : j < nx := by omega
  have z3 := HX.out.word j3
  have z4 := HY.out.word j2
  clear hj
  go_quiet (fail)
  go_wp2_with fail
  clear x1 y1 z3 z4 j1 j2 j3
  go_loopw [7] (fun iv wr => ∃ k : Nat, k ≤ ny ∧ iv = .int .i64 k ∧ Hid (BDirty wr px bx nx cx lx (upto k (fun i => wAnd (fx i) (fy i)) fx) ∧ Only [px, bx] w wr)) (fun iv _ => ny - (intOf iv).toNat)
  case atStart => exact ⟨0, by omega, rfl, by rw [upto_zero]; exact HX.out.dirty.drewN _, (Only.refl _ _).drewN _⟩
  case round =>
    obtain ⟨k, hk, rfl, hR⟩ := hrel
    have HR : Hid (BDirty wr px bx nx cx lx (upto k (fun i => wAnd (fx i) (fy i)) fx) ∧ Only [px, bx] w wr) := hR
    clear hR
    have HY3 := Lib.hid (HY.out.only HR.out.2 (by have := HP.out; unfold Apart at this; simp; omega) (by have := HP.out; unfold Apart at this; simp; omega))
    by_cases hkn : k < ny
    · have c1 := HY3.out.word (i := k) (by omega)
      have c2 : wr.cell? ⟨bx, k, none⟩ = some (.int .u64 (fx k)) := by
        have := HR.out.1.word (i := k) (by omega)
        rwa [upto_at] at this
      have c3 := HR.out.1.wd.free k
      go_wp2_with fail
      have k0 : (0 : Int) ≤ (k : Int) := by omega
      have k1 : (k : Int) < (nx : Int) := by omega
      have k2 : (k : Int) < (ny : Int) := by omega
      refine wp_region_still_tail 10 (by kernel_rfl) (by kernel_rfl) ?_
      simp only [List.take_succ_cons, List.take_zero, List.drop_succ_cons, List.drop_zero]
      repeat still_step
      refine wpStill_nil ?_
      change wpList _ _ _ _ _ wr.drew
      have HE := Lib.hid (wAnd_I (fx k) (fy k) (HX.out.small _) (HY.out.small _))
      rw [HE.out]
      clear k0 k1 k2
      go_wp2_with fail
      go_roundw
      case rel =>
        refine ⟨k + 1, by omega, by go_num, ?_, (HR.out.2.drewN 1).setCell (Or.inl (by simp)) _⟩
        have := (HR.out.1.drewN 1).store k _ (wAnd_lt (HX.out.small k) (HY.out.small k))
        rwa [upto_step k (fun i => wAnd (fx i) (fy i)) fx] at this
      case measure => simp [intOf]; omega
    · have hkk : k = ny := by omega
      have HK := Lib.hid hkk
      clear hkk
      have HR2 : Hid (BDirty wr px bx nx cx lx (upto ny (fun i => wAnd (fx i) (fy i)) fx) ∧ Only [px, bx] w wr) := by have := HR.out; rwa [HK.out] at this
      go_wp2_with fail
      go_loopw [8] (fun iv wr => ∃ k : Nat, ny ≤ k ∧ k ≤ nx ∧ iv = .int .i64 k ∧ Hid (BDirty wr px bx nx cx lx (upto k (fun i => if i < ny then wAnd (fx i) (fy i) else 0) fx) ∧ Only [px, bx] w wr)) (fun iv _ => nx - (intOf iv).toNat)
      case atStart => exact ⟨ny, Nat.le_refl _, by omega, rfl, by rw [upto_swap ny (fun i => if i < ny then wAnd (fx i) (fy i) else 0) (fun i => wAnd (fx i) (fy i)) fx (fun i hi => if_pos hi)]; exact HR2.out.1, HR2.out.2⟩
      case round =>
        obtain ⟨k, hkx, hk, rfl, hR⟩ := hrel
        have HR : Hid (BDirty wr px bx nx cx lx (upto k (fun i => if i < ny then wAnd (fx i) (fy i) else 0) fx) ∧ Only [px, bx] w wr) := hR
        clear hR
        have d3 := HR.out.1.set_cell
        by_cases hkn : k < nx
        · have d5 := HR.out.1.word (i := k) (by omega)
          have d4 := HR.out.1.wd.free k
          go_wp2_with fail
          go_roundw
          case rel =>
            refine ⟨k + 1, by omega, by omega, by go_num, ?_, HR.out.2.setCell (Or.inl (by simp)) _⟩
            have := HR.out.1.store k 0 (by decide)
            have h4 := upto_step k (fun i => if i < ny then wAnd (fx i) (fy i) else 0) fx
            rw [if_neg (show ¬ k < ny by omega)] at h4
            rw [h4] at this
            exact this
          case measure => simp [intOf]; omega
        · have hkk : k = nx := by omega
          have HK := Lib.hid hkk
          clear hkk
          have hd := HR.out.1
          rw [HK.out] at hd
          have HW : Hid (BSet wr px bx nx cx lx (upto nx (fun i => if i < ny then wAnd (fx i) (fy i) else 0) fx)) := hd.whole (fun i h1 h2 => by
            unfold upto
            rw [if_pos (show i / 64 < nx by omega)]
            have h3 := HX.out.clean i h1 h2
            show (((fun i => if i < ny then wAnd (fx i) (fy i) else 0)) (i / 64)).testBit (i % 64) = false
            try simp only []
            split
            · rw [wAnd_tb, h3]; rfl
            · exact Nat.zero_testBit _)
          have HY4 := Lib.hid (HY.out.only HR.out.2 (by have := HP.out; unfold Apart at this; simp; omega) (by have := HP.out; unfold Apart at this; simp; omega))
          have y2 := HY4.out.len_cell
          have x2 := HW.out.len_cell
          clear hd
          have g1 : decide (0 < ly) = true := by apply decide_eq_true; omega
          obtain ⟨m, hm⟩ : ∃ m : Nat, m = ly - 1 := ⟨_, rfl⟩
          have g2 : (ly : Int) - 1 = (m : Int) := by omega
          have g3 : m < lx := by omega
          have g4 : decide (lx ≤ m) = false := decide_eq_false (by omega)
          have HM := Lib.hid hm
          clear hm
          go_wp2_with fail
          go_quiet (fail)
          go_wp2_with fail
          go_end0
          refine ⟨rfl, _, HW.out.drewN _, fun i hi => ?_, HR.out.2.drewN _⟩
          unfold upto
          rw [if_pos hi]

set_option maxRecDepth 100000 in
set_option maxHeartbeats 1000000 in
theorem ipi_B0 {w : World} {px bx nx cx lx py bY ny cy ly : Nat} {fx fy : Nat → Nat} (hx : BSet w px bx nx cx lx fx) (hy : BSet w py bY ny cy ly fy) (hap : Apart px bx py bY) (hle : ly ≤ lx) (hpos : ny = 0) (hl : ly ≤ 100000) (hlx : lx ≤ 100000) (_hcx : cx ≤ 200000) :
    Calls Try.prog 67 #[.pointer (some ⟨px, 0, none⟩), .pointer (some ⟨py, 0, none⟩)] w fun e w' => e = .returned (.tuple #[]) ∧ ∃ g, BSet w' px bx nx cx lx g ∧ (∀ i, i < nx → g i = if i < ny then wAnd (fx i) (fy i) else 0) ∧ Only [px, bx] w w' := by
  have hnl : ny ≤ nx := by rw [hx.n_eq, hy.n_eq]; unfold wn; omega
  have hnf : decide (nx < ny) = false := decide_eq_false (by omega)
  have hl0 : ly = 0 := by have := hy.n_eq; unfold wn at this; omega
  have hz : decide (0 < ny) = false := decide_eq_false (by omega)
  have HZ := Lib.hid hpos
  clear hpos
  have x1 := hx.set_cell
  have y1 := hy.set_cell
  have hnx : nx ≤ 20000 := by rw [hx.n_eq]; unfold wn; omega
  have hny : ny ≤ 20000 := by rw [hy.n_eq]; unfold wn; omega
  have HX := Lib.hid hx
  have HY := Lib.hid hy
  have HP := Lib.hid hap
  clear hx hy hap
  go_enter Try.func67, Try.ntmps67
  go_wp2_with fail
  refine (panicIfNull_any _ _).mono ?_; rintro e w' ⟨rfl, rfl⟩
  go_wp2_with fail
  refine (panicIfNull_any _ _).mono ?_; rintro e w' ⟨rfl, rfl⟩
  go_wp2_with fail
  refine (wordCount_any HY.out.dirty (by omega)).mono ?_; rintro e w' ⟨rfl, rfl⟩
  go_wp2_with fail
  refine (wordCount_any HX.out.dirty (by omega)).mono ?_; rintro e w' ⟨rfl, rfl⟩
  go_wp2_with fail
  clear x1 y1
  go_loopw [8] (fun iv wr => ∃ k : Nat, ny ≤ k ∧ k ≤ nx ∧ iv = .int .i64 k ∧ Hid (BDirty wr px bx nx cx lx (upto k (fun i => if i < ny then wAnd (fx i) (fy i) else 0) fx) ∧ Only [px, bx] w wr)) (fun iv _ => nx - (intOf iv).toNat)
  case atStart => exact ⟨ny, Nat.le_refl _, by omega, rfl, by rw [show upto ny (fun i => if i < ny then wAnd (fx i) (fy i) else 0) fx = fx from by have := HZ.out; funext i; unfold upto; exact if_neg (by omega)]; exact HX.out.dirty, Only.refl _ _⟩
  case round =>
    obtain ⟨k, hkx, hk, rfl, hR⟩ := hrel
    have HR : Hid (BDirty wr px bx nx cx lx (upto k (fun i => if i < ny then wAnd (fx i) (fy i) else 0) fx) ∧ Only [px, bx] w wr) := hR
    clear hR
    have d3 := HR.out.1.set_cell
    by_cases hkn : k < nx
    · have d5 := HR.out.1.word (i := k) (by omega)
      have d4 := HR.out.1.wd.free k
      go_wp2_with fail
      go_roundw
      case rel =>
        refine ⟨k + 1, by omega, by omega, by go_num, ?_, HR.out.2.setCell (Or.inl (by simp)) _⟩
        have := HR.out.1.store k 0 (by decide)
        have h4 := upto_step k (fun i => if i < ny then wAnd (fx i) (fy i) else 0) fx
        rw [if_neg (show ¬ k < ny by omega)] at h4
        rw [h4] at this
        exact this
      case measure => simp [intOf]; omega
    · have hkk : k = nx := by omega
      have HK := Lib.hid hkk
      clear hkk
      have hd := HR.out.1
      rw [HK.out] at hd
      have HW : Hid (BSet wr px bx nx cx lx (upto nx (fun i => if i < ny then wAnd (fx i) (fy i) else 0) fx)) := hd.whole (fun i h1 h2 => by
        unfold upto
        rw [if_pos (show i / 64 < nx by omega)]
        have h3 := HX.out.clean i h1 h2
        show (((fun i => if i < ny then wAnd (fx i) (fy i) else 0)) (i / 64)).testBit (i % 64) = false
        try simp only []
        split
        · rw [wAnd_tb, h3]; rfl
        · exact Nat.zero_testBit _)
      have HY4 := Lib.hid (HY.out.only HR.out.2 (by have := HP.out; unfold Apart at this; simp; omega) (by have := HP.out; unfold Apart at this; simp; omega))
      have y2 := HY4.out.len_cell
      have x2 := HW.out.len_cell
      clear hd
      have g1 : decide (0 < ly) = false := by apply decide_eq_false; omega
      go_wp2_with fail
      go_end0
      refine ⟨rfl, _, HW.out, fun i hi => ?_, HR.out.2⟩
      unfold upto
      rw [if_pos hi]

end Go.Proofs.Ytpmnpaannbhoeaa
