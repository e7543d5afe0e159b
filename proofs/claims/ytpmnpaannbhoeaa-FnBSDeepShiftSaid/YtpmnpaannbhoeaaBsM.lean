/- FlipRange. -/
import Derived.Test.YtpmnpaannbhoeaaBsClr
namespace Go.Proofs.Ytpmnpaannbhoeaa
open Go.RowKit Pop

/-- Words turned whole. -/
def flp (f : Nat → Nat) (k i : Nat) : Nat → Nat := fun q => if k ≤ q ∧ q < k + i then 18446744073709551615 ^^^ f q else f q
theorem flp_zero (f : Nat → Nat) (k : Nat) : flp f k 0 = f := by
  funext q
  unfold flp
  rw [if_neg (by omega)]
theorem flp_at (f : Nat → Nat) (k i : Nat) : flp f k i (k + i) = f (k + i) := by
  unfold flp
  rw [if_neg (by omega)]
theorem flp_next (f : Nat → Nat) (k i : Nat) : upd (flp f k i) (k + i) (18446744073709551615 ^^^ f (k + i)) = flp f k (i + 1) := by
  funext q
  unfold upd flp
  by_cases h : q = k + i
  · rw [if_pos h, if_pos (by omega), h]
  · rw [if_neg h]
    by_cases h2 : k ≤ q ∧ q < k + i
    · rw [if_pos h2, if_pos (by omega)]
    · rw [if_neg h2, if_neg (by omega)]
theorem xor64 {a b : Nat} (ha : a < 18446744073709551616) (hb : b < 18446744073709551616) : a ^^^ b < 18446744073709551616 := Nat.xor_lt_two_pow (n := 64) ha hb
theorem turn_tb (x : Nat) {j : Nat} (hj : j < 64) : (18446744073709551615 ^^^ x).testBit j = !x.testBit j := by
  rw [Nat.testBit_xor, ones_tb j hj]; cases x.testBit j <;> rfl
theorem turned0 (f : Nat → Nat) {k s D : Nat} (hs : s < 64) (hD : 0 < D) (j : Nat) : bit (flp (upd f k (f k ^^^ mLow s)) k D) j = (bit f j != (decide (64 * k + s ≤ j) && decide (j < 64 * (k + D) + 0))) := by
  unfold bit flp upd
  have hj := Nat.mod_lt j (show 0 < 64 by decide)
  by_cases h : j / 64 = k
  · rw [if_pos (by omega), if_pos h, turn_tb _ hj, Nat.testBit_xor, mLow_tb, h, decide_eq_true (show j < 64 * (k + D) + 0 by omega), Bool.and_true]
    by_cases h1 : j % 64 < s
    · rw [decide_eq_true h1, decide_eq_false (by omega)]; cases (f k).testBit (j % 64) <;> rfl
    · rw [decide_eq_false h1, decide_eq_true (by omega)]; cases (f k).testBit (j % 64) <;> rfl
  · by_cases h1 : k ≤ j / 64 ∧ j / 64 < k + D
    · rw [if_pos h1, if_neg h, turn_tb _ hj, decide_eq_true (show j < 64 * (k + D) + 0 by omega), Bool.and_true]
      by_cases h2 : 64 * k + s ≤ j
      · rw [decide_eq_true h2]; cases (f (j / 64)).testBit (j % 64) <;> rfl
      · exact absurd (show 64 * k + s ≤ j by omega) h2
    · rw [if_neg h1, if_neg h]
      have : (decide (64 * k + s ≤ j) && decide (j < 64 * (k + D) + 0)) = false := by
        by_cases h3 : 64 * k + s ≤ j
        · rw [decide_eq_false (show ¬ j < 64 * (k + D) + 0 by omega), Bool.and_false]
        · rw [decide_eq_false h3, Bool.false_and]
      rw [this, Bool.bne_false]
theorem turned1 (f : Nat → Nat) {k s D e : Nat} (hs : s < 64) (he : e < 64) (hxy : 64 * k + s < 64 * (k + D) + e) (j : Nat) :
    bit (upd (flp (upd f k (f k ^^^ mLow s)) k D) (k + D) (upd f k (f k ^^^ mLow s) (k + D) ^^^ mLow e)) j = (bit f j != (decide (64 * k + s ≤ j) && decide (j < 64 * (k + D) + e))) := by
  have hj := Nat.mod_lt j (show 0 < 64 by decide)
  rcases Nat.eq_zero_or_pos D with hD | hD
  · subst hD
    rw [flp_zero, Nat.add_zero, upd_same]
    unfold bit upd
    by_cases h : j / 64 = k
    · rw [if_pos h, Nat.testBit_xor, Nat.testBit_xor, mLow_tb, mLow_tb, h]
      by_cases h1 : j % 64 < s
      · rw [decide_eq_true h1, decide_eq_true (show j % 64 < e by omega), decide_eq_false (show ¬ 64 * k + s ≤ j by omega)]; cases (f k).testBit (j % 64) <;> rfl
      · rw [decide_eq_false h1, decide_eq_true (show 64 * k + s ≤ j by omega)]
        by_cases h2 : j % 64 < e
        · rw [decide_eq_true h2, decide_eq_true (by omega)]; cases (f k).testBit (j % 64) <;> rfl
        · rw [decide_eq_false h2, decide_eq_false (by omega)]; cases (f k).testBit (j % 64) <;> rfl
    · rw [if_neg h, if_neg h]
      have : (decide (64 * k + s ≤ j) && decide (j < 64 * k + e)) = false := by
        by_cases h3 : 64 * k + s ≤ j
        · rw [decide_eq_false (show ¬ j < 64 * k + e by omega), Bool.and_false]
        · rw [decide_eq_false h3, Bool.false_and]
      rw [this, Bool.bne_false]
  · by_cases h : j / 64 = k + D
    · unfold bit
      rw [h, upd_same, upd_other _ _ _ _ (by omega), Nat.testBit_xor, mLow_tb, decide_eq_true (show 64 * k + s ≤ j by omega), Bool.true_and]
      congr 1
      exact decide_eq_decide.2 (by omega)
    · have h0 := turned0 f (k := k) hs hD j
      unfold bit at h0 ⊢
      rw [upd_other _ _ _ _ h, h0]
      congr 2
      exact decide_eq_decide.2 (by omega)
theorem not_high {s : Nat} (hs : s < 64) : 18446744073709551615 ^^^ mHigh s = mLow s := word_eq (xor64 (by decide) (mHigh_lt s)) (mLow_lt hs) fun j hj => by
  rw [turn_tb _ hj, mHigh_tb hs hj, mLow_tb]
  by_cases h : s ≤ j
  · rw [decide_eq_true h, decide_eq_false (by omega)]; rfl
  · rw [decide_eq_false h, decide_eq_true (by omega)]; rfl
theorem max64 : IntKind.u64.max = ((18446744073709551615 : Nat) : Int) := by decide

set_option maxRecDepth 100000 in
set_option maxHeartbeats 1000000 in
theorem fr_k0 {w : World} {p b n c len : Nat} {f : Nat → Nat} (h : BSet w p b n c len f) (x y k s D : Nat) (hx : x = 64 * k + s) (hs : s < 64) (hy : y = 64 * (k + D) + 0) (hxy : x < y) (hg : y ≤ len) (hl : len ≤ 99999) (hy2 : y ≤ 99999) (_hcm : c ≤ 200000) :
    Calls Try.prog 73 #[.pointer (some ⟨p, 0, none⟩), .int .u64 x, .int .u64 y] w fun e' w' => e' = .returned (.pointer (some ⟨p, 0, none⟩)) ∧ ∃ g, BSet w' p b n c len g ∧ (∀ j, bit g j = (bit f j != (decide (x ≤ j) && decide (j < y)))) ∧ Only [b] w w' := by
  have x0 := h.len_cell
  have x1 := h.set_cell
  have H := Lib.hid h
  obtain ⟨z, hz⟩ : ∃ z : Nat, z = y - 1 := ⟨_, rfl⟩
  have z1 : (y : Int) - 1 = (z : Int) := by omega
  have z2 : z < len := by omega
  obtain ⟨m, hm⟩ : ∃ m : Nat, m = k + D := ⟨_, rfl⟩
  have a1 : (x : Int) / 64 = (k : Int) := by omega
  have a2 : (y : Int) / 64 = (m : Int) := by omega
  have a3 : (m : Int) - (k : Int) = (D : Int) := by omega
  have hwx : ∀ w, Calls Try.prog 80 #[.int .u64 x] w fun e' w' => e' = .returned (.int .u64 (s : Int)) ∧ w = w' := fun w => by
    have := wordsIndex_any x w (by omega)
    rwa [show x % 64 = s by omega] at this
  obtain ⟨d, hd⟩ : ∃ d, d = 0 := ⟨_, rfl⟩
  obtain ⟨Y, hY⟩ : ∃ Y : Nat, Y = 18446744073709551616 - y := ⟨_, rfl⟩
  have hwy : ∀ w, Calls Try.prog 80 #[.int .u64 Y] w fun e' w' => e' = .returned (.int .u64 (d : Int)) ∧ w = w' := fun w => by
    have := wordsIndex_any Y w (by omega)
    rwa [show Y % 64 = d by omega] at this
  have hwd : ∀ w, Calls Try.prog 80 #[.int .u64 d] w fun e' w' => e' = .returned (.int .u64 (d : Int)) ∧ w = w' := fun w => by
    have := wordsIndex_any d w (by omega)
    rwa [show d % 64 = d by omega] at this
  have HF := Lib.hid (sF hs)
  have hdn : ((d : Int) != 0) = false := by rw [hd]; rfl
  have hDp : 0 < D := by omega
  have HXY : Hid (x = 64 * k + s ∧ y = 64 * (k + D) + 0 ∧ z = y - 1 ∧ m = k + D) := ⟨hx, hy, hz, hm⟩
  have hkm : k ≤ m := by omega
  have HN : Hid (IntKind.u64.wrap (-(y : Int)) = (Y : Int)) := Lib.hid (by rw [IntKind.wrap_u64]; omega)
  have hxy2 : decide (y ≤ x) = false := decide_eq_false (by omega)
  have hMs := mLow_lt hs
  have hk9 : k ≤ 99999 := by omega
  have hm9 : m ≤ 99999 := by omega
  have hsg : IntKind.u64.signed = false := rfl
  clear h hx hy hd hY hz hm
  go_enter Try.func73, Try.ntmps73
  go_wp2_with fail
  have HX2 := H
  have hmn : m ≤ n ∧ k < n := by have := H.out.n_eq; have := HXY.out; unfold wn at *; omega
  obtain ⟨hmn, hkn⟩ := hmn
  have hnn : n ≤ 20000 := by rw [HX2.out.n_eq]; unfold wn; omega
  have hnc : n ≤ c := HX2.out.nc
  have c1 := HX2.out.word hkn
  have c2' := HX2.out.wd.free k
  have k0 : (0 : Int) ≤ (k : Int) := by omega
  have k1 : (k : Int) < (n : Int) := by omega
  have k2 : ((k : Int)).toNat = k := by omega
  have k3 : ((s : Int)).toNat = s := by omega
  refine wp_region_still_tail 13 (by kernel_rfl) (by kernel_rfl) ?_
  simp only [List.take_succ_cons, List.take_zero, List.drop_succ_cons, List.drop_zero]
  repeat still_step
  still_call ((hwx _).mono fun _ _ ⟨he, hw⟩ => ⟨he, hw.symm⟩)
  repeat still_step
  refine wpStill_nil ?_
  change wpList _ _ _ _ _ w.drew
  have HE : Hid (bits BinOp.xor IntKind.u64 (f k : Int) (bits BinOp.xor IntKind.u64 IntKind.u64.max (IntKind.u64.wrap (18446744073709551615 * 2 ^ s))) = ((f k ^^^ mLow s : Nat) : Int)) := Lib.hid (by
    rw [HF.out, max64, u64_xor_nat _ _ (by decide) (mHigh_lt s), not_high hs, u64_xor_nat _ _ (HX2.out.small k) hMs])
  rw [HE.out]
  have hst := HX2.out.store k (f k ^^^ mLow s) (xor64 (HX2.out.small k) hMs) (fun j hj h1 h2 => by
    have := HXY.out
    rw [Nat.testBit_xor, mLow_tb, HX2.out.clean' hj h1 h2, decide_eq_false (by omega)]; rfl)
  have HS := Lib.hid hst
  have HO1 : Hid (Only [b] w (w.setCell ⟨b, k, none⟩ (.int .u64 ((f k ^^^ mLow s : Nat) : Int)))) := Lib.hid ((Only.refl [b] w).setCell (Or.inl (by simp)) _)
  have x2' := hst.set_cell
  clear hst k0 k1 k2 k3
  have hmc : m ≤ c := by omega
  have a4 : m - k = D := by have := HXY.out; omega
  go_wp2_with fail
  clear c1 c2' x2'
  go_loopw [53] (fun iv wr => ∃ i : Nat, i ≤ D ∧ iv = .int .i64 i ∧ Hid (BSet wr p b n c len (flp (upd f k (f k ^^^ mLow s)) k i) ∧ Only [b] w wr)) (fun iv _ => D - (intOf iv).toNat)
  case atStart => exact ⟨0, Nat.zero_le _, rfl, by rw [flp_zero]; exact HS.out.drewN 1, HO1.out.drewN 1⟩
  case round =>
    obtain ⟨i, hiD, rfl, hR⟩ := hrel
    have HR : Hid (BSet wr p b n c len (flp (upd f k (f k ^^^ mLow s)) k i) ∧ Only [b] w wr) := hR
    clear hR
    have d1 := HR.out.1.set_cell
    by_cases hi2 : i < D
    · obtain ⟨q, hq⟩ : ∃ q, q = k + i := ⟨_, rfl⟩
      have hqi : (k : Int) + (i : Int) = (q : Int) := by omega
      have hqm : q < m := by have := HXY.out; omega
      have hqn : q < n := by omega
      have d2 := HR.out.1.word hqn
      have d3 := HR.out.1.wd.free q
      have e0 : flp (upd f k (f k ^^^ mLow s)) k i q = upd f k (f k ^^^ mLow s) q := by rw [hq]; exact flp_at _ _ _
      rw [e0] at d2
      obtain ⟨X, hX⟩ : ∃ X, X = upd f k (f k ^^^ mLow s) q := ⟨_, rfl⟩
      rw [← hX] at d2
      have hXl : X < 18446744073709551616 := by rw [hX, ← e0]; exact HR.out.1.small q
      have HXX := Lib.hid hX
      have HQ := Lib.hid hq
      have hw1 : IntKind.i64.wrap (q : Int) = (q : Int) := IntWalk.i64_in _ (by omega)
      clear e0 hX hq
      go_wp2_with fail
      have k0 : (0 : Int) ≤ (q : Int) := by omega
      have k1 : (q : Int) < (n : Int) := by omega
      have k2 : ((q : Int)).toNat = q := by omega
      refine wp_region_still_tail 18 (by kernel_rfl) (by kernel_rfl) ?_
      simp only [List.take_succ_cons, List.take_zero, List.drop_succ_cons, List.drop_zero]
      repeat still_step
      refine wpStill_nil ?_
      change wpList _ _ _ _ _ wr.drew
      have HE3 : Hid (bits BinOp.xor IntKind.u64 IntKind.u64.max (X : Int) = ((18446744073709551615 ^^^ X : Nat) : Int)) := Lib.hid (by
        rw [max64, u64_xor_nat _ _ (by decide) hXl])
      rw [HE3.out]
      clear k0 k1 k2 hw1
      go_wp2_with fail
      go_roundw
      case rel =>
        refine ⟨i + 1, by omega, by go_num, BSet.drewN (k := 1) ?_, (HR.out.2.setCell (Or.inl (by simp)) _).drewN 1⟩
        have := HR.out.1.store q (18446744073709551615 ^^^ X) (xor64 (by decide) hXl) (fun j hj h1 h2 => by
          have := HXY.out
          exfalso; omega)
        have e1 := flp_next (upd f k (f k ^^^ mLow s)) k i
        rw [← HQ.out, ← HXX.out] at e1
        rwa [e1] at this
      case measure => simp [intOf]; omega
    · have hi3 : i = D := by omega
      have HR2 : Hid (BSet wr p b n c len (flp (upd f k (f k ^^^ mLow s)) k D) ∧ Only [b] w wr) := by have := HR.out; rwa [hi3] at this
      have hiF : decide (i < D) = false := decide_eq_false hi2
      clear hi3 hi2
      go_wp2_with fail
      rw [HN.out]
      refine (hwy _).mono ?_; rintro e' w' ⟨rfl, rfl⟩
      go_wp2_with fail
      have hst2 := HR2.out.1
      have hon := HR2.out.2
      go_ret
      refine ⟨rfl, _, hst2, fun j => ?_, hon⟩
      rw [turned0 _ hs hDp, ← HXY.out.1, ← HXY.out.2.1]

set_option maxRecDepth 100000 in
set_option maxHeartbeats 1000000 in
theorem fr_k1 {w : World} {p b n c len : Nat} {f : Nat → Nat} (h : BSet w p b n c len f) (x y k s D e : Nat) (hx : x = 64 * k + s) (hs : s < 64) (hy : y = 64 * (k + D) + e) (he0 : 0 < e) (he : e < 64) (hxy : x < y) (hg : y ≤ len) (hl : len ≤ 99999) (hy2 : y ≤ 99999) (_hcm : c ≤ 200000) :
    Calls Try.prog 73 #[.pointer (some ⟨p, 0, none⟩), .int .u64 x, .int .u64 y] w fun e' w' => e' = .returned (.pointer (some ⟨p, 0, none⟩)) ∧ ∃ g, BSet w' p b n c len g ∧ (∀ j, bit g j = (bit f j != (decide (x ≤ j) && decide (j < y)))) ∧ Only [b] w w' := by
  have x0 := h.len_cell
  have x1 := h.set_cell
  have H := Lib.hid h
  obtain ⟨z, hz⟩ : ∃ z : Nat, z = y - 1 := ⟨_, rfl⟩
  have z1 : (y : Int) - 1 = (z : Int) := by omega
  have z2 : z < len := by omega
  obtain ⟨m, hm⟩ : ∃ m : Nat, m = k + D := ⟨_, rfl⟩
  have a1 : (x : Int) / 64 = (k : Int) := by omega
  have a2 : (y : Int) / 64 = (m : Int) := by omega
  have a3 : (m : Int) - (k : Int) = (D : Int) := by omega
  have hwx : ∀ w, Calls Try.prog 80 #[.int .u64 x] w fun e' w' => e' = .returned (.int .u64 (s : Int)) ∧ w = w' := fun w => by
    have := wordsIndex_any x w (by omega)
    rwa [show x % 64 = s by omega] at this
  obtain ⟨d, hd⟩ : ∃ d, d = 64 - e := ⟨_, rfl⟩
  obtain ⟨Y, hY⟩ : ∃ Y : Nat, Y = 18446744073709551616 - y := ⟨_, rfl⟩
  have hwy : ∀ w, Calls Try.prog 80 #[.int .u64 Y] w fun e' w' => e' = .returned (.int .u64 (d : Int)) ∧ w = w' := fun w => by
    have := wordsIndex_any Y w (by omega)
    rwa [show Y % 64 = d by omega] at this
  have hwd : ∀ w, Calls Try.prog 80 #[.int .u64 d] w fun e' w' => e' = .returned (.int .u64 (d : Int)) ∧ w = w' := fun w => by
    have := wordsIndex_any d w (by omega)
    rwa [show d % 64 = d by omega] at this
  have HF := Lib.hid (sF hs)
  have HG := Lib.hid (sG (by omega) hd)
  have hMe := mLow_lt he
  have hdn : ((d : Int) != 0) = true := by simp; omega
  have HXY : Hid (x = 64 * k + s ∧ y = 64 * (k + D) + e ∧ z = y - 1 ∧ m = k + D) := ⟨hx, hy, hz, hm⟩
  have hkm : k ≤ m := by omega
  have HN : Hid (IntKind.u64.wrap (-(y : Int)) = (Y : Int)) := Lib.hid (by rw [IntKind.wrap_u64]; omega)
  have hxy2 : decide (y ≤ x) = false := decide_eq_false (by omega)
  have hMs := mLow_lt hs
  have hk9 : k ≤ 99999 := by omega
  have hm9 : m ≤ 99999 := by omega
  have hsg : IntKind.u64.signed = false := rfl
  clear h hx hy hd hY hz hm
  go_enter Try.func73, Try.ntmps73
  go_wp2_with fail
  have HX2 := H
  have hmn : m < n ∧ k < n := by have := H.out.n_eq; have := HXY.out; unfold wn at *; omega
  obtain ⟨hmn, hkn⟩ := hmn
  have hnn : n ≤ 20000 := by rw [HX2.out.n_eq]; unfold wn; omega
  have hnc : n ≤ c := HX2.out.nc
  have c1 := HX2.out.word hkn
  have c2' := HX2.out.wd.free k
  have k0 : (0 : Int) ≤ (k : Int) := by omega
  have k1 : (k : Int) < (n : Int) := by omega
  have k2 : ((k : Int)).toNat = k := by omega
  have k3 : ((s : Int)).toNat = s := by omega
  refine wp_region_still_tail 13 (by kernel_rfl) (by kernel_rfl) ?_
  simp only [List.take_succ_cons, List.take_zero, List.drop_succ_cons, List.drop_zero]
  repeat still_step
  still_call ((hwx _).mono fun _ _ ⟨he, hw⟩ => ⟨he, hw.symm⟩)
  repeat still_step
  refine wpStill_nil ?_
  change wpList _ _ _ _ _ w.drew
  have HE : Hid (bits BinOp.xor IntKind.u64 (f k : Int) (bits BinOp.xor IntKind.u64 IntKind.u64.max (IntKind.u64.wrap (18446744073709551615 * 2 ^ s))) = ((f k ^^^ mLow s : Nat) : Int)) := Lib.hid (by
    rw [HF.out, max64, u64_xor_nat _ _ (by decide) (mHigh_lt s), not_high hs, u64_xor_nat _ _ (HX2.out.small k) hMs])
  rw [HE.out]
  have hst := HX2.out.store k (f k ^^^ mLow s) (xor64 (HX2.out.small k) hMs) (fun j hj h1 h2 => by
    have := HXY.out
    rw [Nat.testBit_xor, mLow_tb, HX2.out.clean' hj h1 h2, decide_eq_false (by omega)]; rfl)
  have HS := Lib.hid hst
  have HO1 : Hid (Only [b] w (w.setCell ⟨b, k, none⟩ (.int .u64 ((f k ^^^ mLow s : Nat) : Int)))) := Lib.hid ((Only.refl [b] w).setCell (Or.inl (by simp)) _)
  have x2' := hst.set_cell
  clear hst k0 k1 k2 k3
  have hmc : m ≤ c := by omega
  have a4 : m - k = D := by have := HXY.out; omega
  go_wp2_with fail
  clear c1 c2' x2'
  go_loopw [53] (fun iv wr => ∃ i : Nat, i ≤ D ∧ iv = .int .i64 i ∧ Hid (BSet wr p b n c len (flp (upd f k (f k ^^^ mLow s)) k i) ∧ Only [b] w wr)) (fun iv _ => D - (intOf iv).toNat)
  case atStart => exact ⟨0, Nat.zero_le _, rfl, by rw [flp_zero]; exact HS.out.drewN 1, HO1.out.drewN 1⟩
  case round =>
    obtain ⟨i, hiD, rfl, hR⟩ := hrel
    have HR : Hid (BSet wr p b n c len (flp (upd f k (f k ^^^ mLow s)) k i) ∧ Only [b] w wr) := hR
    clear hR
    have d1 := HR.out.1.set_cell
    by_cases hi2 : i < D
    · obtain ⟨q, hq⟩ : ∃ q, q = k + i := ⟨_, rfl⟩
      have hqi : (k : Int) + (i : Int) = (q : Int) := by omega
      have hqm : q < m := by have := HXY.out; omega
      have hqn : q < n := by omega
      have d2 := HR.out.1.word hqn
      have d3 := HR.out.1.wd.free q
      have e0 : flp (upd f k (f k ^^^ mLow s)) k i q = upd f k (f k ^^^ mLow s) q := by rw [hq]; exact flp_at _ _ _
      rw [e0] at d2
      obtain ⟨X, hX⟩ : ∃ X, X = upd f k (f k ^^^ mLow s) q := ⟨_, rfl⟩
      rw [← hX] at d2
      have hXl : X < 18446744073709551616 := by rw [hX, ← e0]; exact HR.out.1.small q
      have HXX := Lib.hid hX
      have HQ := Lib.hid hq
      have hw1 : IntKind.i64.wrap (q : Int) = (q : Int) := IntWalk.i64_in _ (by omega)
      clear e0 hX hq
      go_wp2_with fail
      have k0 : (0 : Int) ≤ (q : Int) := by omega
      have k1 : (q : Int) < (n : Int) := by omega
      have k2 : ((q : Int)).toNat = q := by omega
      refine wp_region_still_tail 18 (by kernel_rfl) (by kernel_rfl) ?_
      simp only [List.take_succ_cons, List.take_zero, List.drop_succ_cons, List.drop_zero]
      repeat still_step
      refine wpStill_nil ?_
      change wpList _ _ _ _ _ wr.drew
      have HE3 : Hid (bits BinOp.xor IntKind.u64 IntKind.u64.max (X : Int) = ((18446744073709551615 ^^^ X : Nat) : Int)) := Lib.hid (by
        rw [max64, u64_xor_nat _ _ (by decide) hXl])
      rw [HE3.out]
      clear k0 k1 k2 hw1
      go_wp2_with fail
      go_roundw
      case rel =>
        refine ⟨i + 1, by omega, by go_num, BSet.drewN (k := 1) ?_, (HR.out.2.setCell (Or.inl (by simp)) _).drewN 1⟩
        have := HR.out.1.store q (18446744073709551615 ^^^ X) (xor64 (by decide) hXl) (fun j hj h1 h2 => by
          have := HXY.out
          exfalso; omega)
        have e1 := flp_next (upd f k (f k ^^^ mLow s)) k i
        rw [← HQ.out, ← HXX.out] at e1
        rwa [e1] at this
      case measure => simp [intOf]; omega
    · have hi3 : i = D := by omega
      have HR2 : Hid (BSet wr p b n c len (flp (upd f k (f k ^^^ mLow s)) k D) ∧ Only [b] w wr) := by have := HR.out; rwa [hi3] at this
      have hiF : decide (i < D) = false := decide_eq_false hi2
      clear hi3 hi2
      go_wp2_with fail
      rw [HN.out]
      refine (hwy _).mono ?_; rintro e' w' ⟨rfl, rfl⟩
      go_wp2_with fail
      have d2 := HR2.out.1.word hmn
      have d3 := HR2.out.1.wd.free m
      have e0 : flp (upd f k (f k ^^^ mLow s)) k D m = upd f k (f k ^^^ mLow s) m := by rw [HXY.out.2.2.2]; exact flp_at _ _ _
      rw [e0] at d2
      obtain ⟨X, hX⟩ : ∃ X, X = upd f k (f k ^^^ mLow s) m := ⟨_, rfl⟩
      rw [← hX] at d2
      have hXl : X < 18446744073709551616 := by rw [hX, ← e0]; exact HR2.out.1.small m
      have HXX := Lib.hid hX
      have HQ0 := Lib.hid e0
      clear e0 hX
      have k0 : (0 : Int) ≤ (m : Int) := by omega
      have k1 : (m : Int) < (n : Int) := by omega
      have k2 : ((m : Int)).toNat = m := by omega
      have k3 : ((d : Int)).toNat = d := by omega
      refine wp_region_still_tail 12 (by kernel_rfl) (by kernel_rfl) ?_
      simp only [List.take_succ_cons, List.take_zero, List.drop_succ_cons, List.drop_zero]
      repeat still_step
      still_call ((hwd _).mono fun _ _ ⟨he, hw⟩ => ⟨he, hw.symm⟩)
      repeat still_step
      refine wpStill_nil ?_
      change wpList _ _ _ _ _ wr.drew
      have HE2 : Hid (bits BinOp.xor IntKind.u64 (X : Int) (18446744073709551615 / 2 ^ (min d 64)) = ((X ^^^ mLow e : Nat) : Int)) := Lib.hid (by rw [HG.out, u64_xor_nat _ _ hXl hMe])
      rw [HE2.out]
      clear k0 k1 k2 k3
      go_wp2_with fail
      have hst := HR2.out.1.store m (X ^^^ mLow e) (xor64 hXl hMe) (fun j hj h1 h2 => by
        have := HXY.out
        rw [Nat.testBit_xor, mLow_tb, HXX.out, ← HQ0.out, HR2.out.1.clean' hj h1 h2, decide_eq_false (by omega)]; rfl)
      have hst2 := hst.drewN 1
      have hon : Only [b] w ((wr.setCell ⟨b, m, none⟩ (.int .u64 ((X ^^^ mLow e : Nat) : Int))).drewN 1) := (HR2.out.2.setCell (Or.inl (by simp)) _).drewN 1
      have e5 : upd (flp (upd f k (f k ^^^ mLow s)) k D) m (X ^^^ mLow e) = upd (flp (upd f k (f k ^^^ mLow s)) k D) (k + D) (upd f k (f k ^^^ mLow s) (k + D) ^^^ mLow e) := by rw [HXX.out, HXY.out.2.2.2]
      rw [e5] at hst2
      go_ret
      refine ⟨rfl, _, hst2, fun j => ?_, hon⟩
      rw [turned1 _ hs he (by have := HXY.out; omega), ← HXY.out.1, ← HXY.out.2.1]

set_option maxRecDepth 100000 in
set_option maxHeartbeats 1000000 in
theorem fr_g0 {w : World} {p b n c len : Nat} {f : Nat → Nat} (h : BSet w p b n c len f) (x y k s D : Nat) (hx : x = 64 * k + s) (hs : s < 64) (hy : y = 64 * (k + D) + 0) (hxy : x < y) (hg : len < y) (hl : len ≤ 99999) (hy2 : y ≤ 99999) (hcm : c ≤ 200000) :
    Calls Try.prog 73 #[.pointer (some ⟨p, 0, none⟩), .int .u64 x, .int .u64 y] w fun e' w' => e' = .returned (.pointer (some ⟨p, 0, none⟩)) ∧ ∃ b2 n2 c2 g, BSet w' p b2 n2 c2 y g ∧ (∀ j, j < y → bit g j = ((decide (j < len) && bit f j) != (decide (x ≤ j) && decide (j < y)))) ∧ Only [p, b] w w' ∧ (b2 = b ∨ w.heap.size ≤ b2) ∧ c2 ≤ 200000 := by
  have x0 := h.len_cell
  have x1 := h.set_cell
  have H := Lib.hid h
  obtain ⟨z, hz⟩ : ∃ z : Nat, z = y - 1 := ⟨_, rfl⟩
  have z1 : (y : Int) - 1 = (z : Int) := by omega
  have z2 : len ≤ z := by omega
  obtain ⟨m, hm⟩ : ∃ m : Nat, m = k + D := ⟨_, rfl⟩
  have a1 : (x : Int) / 64 = (k : Int) := by omega
  have a2 : (y : Int) / 64 = (m : Int) := by omega
  have a3 : (m : Int) - (k : Int) = (D : Int) := by omega
  have hwx : ∀ w, Calls Try.prog 80 #[.int .u64 x] w fun e' w' => e' = .returned (.int .u64 (s : Int)) ∧ w = w' := fun w => by
    have := wordsIndex_any x w (by omega)
    rwa [show x % 64 = s by omega] at this
  obtain ⟨d, hd⟩ : ∃ d, d = 0 := ⟨_, rfl⟩
  obtain ⟨Y, hY⟩ : ∃ Y : Nat, Y = 18446744073709551616 - y := ⟨_, rfl⟩
  have hwy : ∀ w, Calls Try.prog 80 #[.int .u64 Y] w fun e' w' => e' = .returned (.int .u64 (d : Int)) ∧ w = w' := fun w => by
    have := wordsIndex_any Y w (by omega)
    rwa [show Y % 64 = d by omega] at this
  have hwd : ∀ w, Calls Try.prog 80 #[.int .u64 d] w fun e' w' => e' = .returned (.int .u64 (d : Int)) ∧ w = w' := fun w => by
    have := wordsIndex_any d w (by omega)
    rwa [show d % 64 = d by omega] at this
  have HF := Lib.hid (sF hs)
  have hdn : ((d : Int) != 0) = false := by rw [hd]; rfl
  have hDp : 0 < D := by omega
  have HXY : Hid (x = 64 * k + s ∧ y = 64 * (k + D) + 0 ∧ z = y - 1 ∧ m = k + D) := ⟨hx, hy, hz, hm⟩
  have hkm : k ≤ m := by omega
  have HN : Hid (IntKind.u64.wrap (-(y : Int)) = (Y : Int)) := Lib.hid (by rw [IntKind.wrap_u64]; omega)
  have hxy2 : decide (y ≤ x) = false := decide_eq_false (by omega)
  have hMs := mLow_lt hs
  have hk9 : k ≤ 99999 := by omega
  have hm9 : m ≤ 99999 := by omega
  have hsg : IntKind.u64.signed = false := rfl
  clear h hx hy hd hY hz hm
  go_enter Try.func73, Try.ntmps73
  go_wp2_with fail
  refine (extend_words H.out z z2 (by have := HXY.out.2.2; omega) hcm).mono ?_
  rintro e' w2 ⟨rfl, b2, c2, g0, hB, hgw, ho, hb, hc⟩
  obtain ⟨n2, hn2⟩ : ∃ n2, n2 = wn (z + 1) := ⟨_, rfl⟩
  have hz1 : z + 1 = y := by have := HXY.out.2.2; omega
  rw [← hn2] at hB hgw
  rw [hz1] at hB hn2
  have HB : Hid (Only [p, b] w w2 ∧ (b2 = b ∨ b2 = w.heap.size) ∧ c2 ≤ 200000) := ⟨ho, hb, hc⟩
  have HGW := Lib.hid hgw
  have x2 := hB.len_cell
  have x3 := hB.set_cell
  have HX2 := Lib.hid hB
  have hmn : m ≤ n2 ∧ k < n2 := by have := HXY.out; unfold wn at hn2; omega
  have HN2 := Lib.hid hn2
  clear hB hgw ho hb hc hz1 x0 x1 hn2
  have x1 := x3
  go_wp2_with fail
  obtain ⟨hmn, hkn⟩ := hmn
  have hnn : n2 ≤ 20000 := by rw [HX2.out.n_eq]; unfold wn; omega
  have hnc : n2 ≤ c2 := HX2.out.nc
  have c1 := HX2.out.word hkn
  have c2' := HX2.out.wd.free k
  have k0 : (0 : Int) ≤ (k : Int) := by omega
  have k1 : (k : Int) < (n2 : Int) := by omega
  have k2 : ((k : Int)).toNat = k := by omega
  have k3 : ((s : Int)).toNat = s := by omega
  refine wp_region_still_tail 13 (by kernel_rfl) (by kernel_rfl) ?_
  simp only [List.take_succ_cons, List.take_zero, List.drop_succ_cons, List.drop_zero]
  repeat still_step
  still_call ((hwx _).mono fun _ _ ⟨he, hw⟩ => ⟨he, hw.symm⟩)
  repeat still_step
  refine wpStill_nil ?_
  change wpList _ _ _ _ _ w2.drew
  have HE : Hid (bits BinOp.xor IntKind.u64 (g0 k : Int) (bits BinOp.xor IntKind.u64 IntKind.u64.max (IntKind.u64.wrap (18446744073709551615 * 2 ^ s))) = ((g0 k ^^^ mLow s : Nat) : Int)) := Lib.hid (by
    rw [HF.out, max64, u64_xor_nat _ _ (by decide) (mHigh_lt s), not_high hs, u64_xor_nat _ _ (HX2.out.small k) hMs])
  rw [HE.out]
  have hst := HX2.out.store k (g0 k ^^^ mLow s) (xor64 (HX2.out.small k) hMs) (fun j hj h1 h2 => by
    have := HXY.out
    rw [Nat.testBit_xor, mLow_tb, HX2.out.clean' hj h1 h2, decide_eq_false (by omega)]; rfl)
  have HS := Lib.hid hst
  have HO1 : Hid (Only [b2] w2 (w2.setCell ⟨b2, k, none⟩ (.int .u64 ((g0 k ^^^ mLow s : Nat) : Int)))) := Lib.hid ((Only.refl [b2] w2).setCell (Or.inl (by simp)) _)
  have x2' := hst.set_cell
  clear hst k0 k1 k2 k3
  have hmc : m ≤ c2 := by omega
  have a4 : m - k = D := by have := HXY.out; omega
  go_wp2_with fail
  clear c1 c2' x2'
  go_loopw [53] (fun iv wr => ∃ i : Nat, i ≤ D ∧ iv = .int .i64 i ∧ Hid (BSet wr p b2 n2 c2 y (flp (upd g0 k (g0 k ^^^ mLow s)) k i) ∧ Only [b2] w2 wr)) (fun iv _ => D - (intOf iv).toNat)
  case atStart => exact ⟨0, Nat.zero_le _, rfl, by rw [flp_zero]; exact HS.out.drewN 1, HO1.out.drewN 1⟩
  case round =>
    obtain ⟨i, hiD, rfl, hR⟩ := hrel
    have HR : Hid (BSet wr p b2 n2 c2 y (flp (upd g0 k (g0 k ^^^ mLow s)) k i) ∧ Only [b2] w2 wr) := hR
    clear hR
    have d1 := HR.out.1.set_cell
    by_cases hi2 : i < D
    · obtain ⟨q, hq⟩ : ∃ q, q = k + i := ⟨_, rfl⟩
      have hqi : (k : Int) + (i : Int) = (q : Int) := by omega
      have hqm : q < m := by have := HXY.out; omega
      have hqn : q < n2 := by omega
      have d2 := HR.out.1.word hqn
      have d3 := HR.out.1.wd.free q
      have e0 : flp (upd g0 k (g0 k ^^^ mLow s)) k i q = upd g0 k (g0 k ^^^ mLow s) q := by rw [hq]; exact flp_at _ _ _
      rw [e0] at d2
      obtain ⟨X, hX⟩ : ∃ X, X = upd g0 k (g0 k ^^^ mLow s) q := ⟨_, rfl⟩
      rw [← hX] at d2
      have hXl : X < 18446744073709551616 := by rw [hX, ← e0]; exact HR.out.1.small q
      have HXX := Lib.hid hX
      have HQ := Lib.hid hq
      have hw1 : IntKind.i64.wrap (q : Int) = (q : Int) := IntWalk.i64_in _ (by omega)
      clear e0 hX hq
      go_wp2_with fail
      have k0 : (0 : Int) ≤ (q : Int) := by omega
      have k1 : (q : Int) < (n2 : Int) := by omega
      have k2 : ((q : Int)).toNat = q := by omega
      refine wp_region_still_tail 18 (by kernel_rfl) (by kernel_rfl) ?_
      simp only [List.take_succ_cons, List.take_zero, List.drop_succ_cons, List.drop_zero]
      repeat still_step
      refine wpStill_nil ?_
      change wpList _ _ _ _ _ wr.drew
      have HE3 : Hid (bits BinOp.xor IntKind.u64 IntKind.u64.max (X : Int) = ((18446744073709551615 ^^^ X : Nat) : Int)) := Lib.hid (by
        rw [max64, u64_xor_nat _ _ (by decide) hXl])
      rw [HE3.out]
      clear k0 k1 k2 hw1
      go_wp2_with fail
      go_roundw
      case rel =>
        refine ⟨i + 1, by omega, by go_num, BSet.drewN (k := 1) ?_, (HR.out.2.setCell (Or.inl (by simp)) _).drewN 1⟩
        have := HR.out.1.store q (18446744073709551615 ^^^ X) (xor64 (by decide) hXl) (fun j hj h1 h2 => by
          have := HXY.out
          exfalso; omega)
        have e1 := flp_next (upd g0 k (g0 k ^^^ mLow s)) k i
        rw [← HQ.out, ← HXX.out] at e1
        rwa [e1] at this
      case measure => simp [intOf]; omega
    · have hi3 : i = D := by omega
      have HR2 : Hid (BSet wr p b2 n2 c2 y (flp (upd g0 k (g0 k ^^^ mLow s)) k D) ∧ Only [b2] w2 wr) := by have := HR.out; rwa [hi3] at this
      have hiF : decide (i < D) = false := decide_eq_false hi2
      clear hi3 hi2
      go_wp2_with fail
      rw [HN.out]
      refine (hwy _).mono ?_; rintro e' w' ⟨rfl, rfl⟩
      go_wp2_with fail
      have hst2 := HR2.out.1
      have hon := HR2.out.2
      go_ret
      refine ⟨rfl, b2, n2, c2, _, hst2, fun j hj => ?_, ?_, ?_, HB.out.2.2⟩
      · rw [turned0 _ hs hDp, ← HXY.out.1, ← HXY.out.2.1]
        congr 1
        unfold bit
        have hjn : j / 64 < n2 := by have := HN2.out; unfold wn at this; omega
        rw [HGW.out _ hjn]
        by_cases h1 : j / 64 < n
        · rw [if_pos h1]
          by_cases h2 : j < len
          · rw [decide_eq_true h2, Bool.true_and]
          · rw [decide_eq_false h2, Bool.false_and]; exact H.out.clean j (by omega) (by omega)
        · rw [if_neg h1, Nat.zero_testBit, decide_eq_false (show ¬ j < len by have := H.out.n_eq; unfold wn at this; omega), Bool.false_and]
      · refine Only.new (B := w.heap.size) HB.out.1 (hon.mono fun k _ hk => ?_) (Nat.le_refl _)
        have := HB.out.2.1
        simp at hk ⊢
        omega
      · have := HB.out.2.1
        omega

set_option maxRecDepth 100000 in
set_option maxHeartbeats 1000000 in
theorem fr_g1 {w : World} {p b n c len : Nat} {f : Nat → Nat} (h : BSet w p b n c len f) (x y k s D e : Nat) (hx : x = 64 * k + s) (hs : s < 64) (hy : y = 64 * (k + D) + e) (he0 : 0 < e) (he : e < 64) (hxy : x < y) (hg : len < y) (hl : len ≤ 99999) (hy2 : y ≤ 99999) (hcm : c ≤ 200000) :
    Calls Try.prog 73 #[.pointer (some ⟨p, 0, none⟩), .int .u64 x, .int .u64 y] w fun e' w' => e' = .returned (.pointer (some ⟨p, 0, none⟩)) ∧ ∃ b2 n2 c2 g, BSet w' p b2 n2 c2 y g ∧ (∀ j, j < y → bit g j = ((decide (j < len) && bit f j) != (decide (x ≤ j) && decide (j < y)))) ∧ Only [p, b] w w' ∧ (b2 = b ∨ w.heap.size ≤ b2) ∧ c2 ≤ 200000 := by
  have x0 := h.len_cell
  have x1 := h.set_cell
  have H := Lib.hid h
  obtain ⟨z, hz⟩ : ∃ z : Nat, z = y - 1 := ⟨_, rfl⟩
  have z1 : (y : Int) - 1 = (z : Int) := by omega
  have z2 : len ≤ z := by omega
  obtain ⟨m, hm⟩ : ∃ m : Nat, m = k + D := ⟨_, rfl⟩
  have a1 : (x : Int) / 64 = (k : Int) := by omega
  have a2 : (y : Int) / 64 = (m : Int) := by omega
  have a3 : (m : Int) - (k : Int) = (D : Int) := by omega
  have hwx : ∀ w, Calls Try.prog 80 #[.int .u64 x] w fun e' w' => e' = .returned (.int .u64 (s : Int)) ∧ w = w' := fun w => by
    have := wordsIndex_any x w (by omega)
    rwa [show x % 64 = s by omega] at this
  obtain ⟨d, hd⟩ : ∃ d, d = 64 - e := ⟨_, rfl⟩
  obtain ⟨Y, hY⟩ : ∃ Y : Nat, Y = 18446744073709551616 - y := ⟨_, rfl⟩
  have hwy : ∀ w, Calls Try.prog 80 #[.int .u64 Y] w fun e' w' => e' = .returned (.int .u64 (d : Int)) ∧ w = w' := fun w => by
    have := wordsIndex_any Y w (by omega)
    rwa [show Y % 64 = d by omega] at this
  have hwd : ∀ w, Calls Try.prog 80 #[.int .u64 d] w fun e' w' => e' = .returned (.int .u64 (d : Int)) ∧ w = w' := fun w => by
    have := wordsIndex_any d w (by omega)
    rwa [show d % 64 = d by omega] at this
  have HF := Lib.hid (sF hs)
  have HG := Lib.hid (sG (by omega) hd)
  have hMe := mLow_lt he
  have hdn : ((d : Int) != 0) = true := by simp; omega
  have HXY : Hid (x = 64 * k + s ∧ y = 64 * (k + D) + e ∧ z = y - 1 ∧ m = k + D) := ⟨hx, hy, hz, hm⟩
  have hkm : k ≤ m := by omega
  have HN : Hid (IntKind.u64.wrap (-(y : Int)) = (Y : Int)) := Lib.hid (by rw [IntKind.wrap_u64]; omega)
  have hxy2 : decide (y ≤ x) = false := decide_eq_false (by omega)
  have hMs := mLow_lt hs
  have hk9 : k ≤ 99999 := by omega
  have hm9 : m ≤ 99999 := by omega
  have hsg : IntKind.u64.signed = false := rfl
  clear h hx hy hd hY hz hm
  go_enter Try.func73, Try.ntmps73
  go_wp2_with fail
  refine (extend_words H.out z z2 (by have := HXY.out.2.2; omega) hcm).mono ?_
  rintro e' w2 ⟨rfl, b2, c2, g0, hB, hgw, ho, hb, hc⟩
  obtain ⟨n2, hn2⟩ : ∃ n2, n2 = wn (z + 1) := ⟨_, rfl⟩
  have hz1 : z + 1 = y := by have := HXY.out.2.2; omega
  rw [← hn2] at hB hgw
  rw [hz1] at hB hn2
  have HB : Hid (Only [p, b] w w2 ∧ (b2 = b ∨ b2 = w.heap.size) ∧ c2 ≤ 200000) := ⟨ho, hb, hc⟩
  have HGW := Lib.hid hgw
  have x2 := hB.len_cell
  have x3 := hB.set_cell
  have HX2 := Lib.hid hB
  have hmn : m < n2 ∧ k < n2 := by have := HXY.out; unfold wn at hn2; omega
  have HN2 := Lib.hid hn2
  clear hB hgw ho hb hc hz1 x0 x1 hn2
  have x1 := x3
  go_wp2_with fail
  obtain ⟨hmn, hkn⟩ := hmn
  have hnn : n2 ≤ 20000 := by rw [HX2.out.n_eq]; unfold wn; omega
  have hnc : n2 ≤ c2 := HX2.out.nc
  have c1 := HX2.out.word hkn
  have c2' := HX2.out.wd.free k
  have k0 : (0 : Int) ≤ (k : Int) := by omega
  have k1 : (k : Int) < (n2 : Int) := by omega
  have k2 : ((k : Int)).toNat = k := by omega
  have k3 : ((s : Int)).toNat = s := by omega
  refine wp_region_still_tail 13 (by kernel_rfl) (by kernel_rfl) ?_
  simp only [List.take_succ_cons, List.take_zero, List.drop_succ_cons, List.drop_zero]
  repeat still_step
  still_call ((hwx _).mono fun _ _ ⟨he, hw⟩ => ⟨he, hw.symm⟩)
  repeat still_step
  refine wpStill_nil ?_
  change wpList _ _ _ _ _ w2.drew
  have HE : Hid (bits BinOp.xor IntKind.u64 (g0 k : Int) (bits BinOp.xor IntKind.u64 IntKind.u64.max (IntKind.u64.wrap (18446744073709551615 * 2 ^ s))) = ((g0 k ^^^ mLow s : Nat) : Int)) := Lib.hid (by
    rw [HF.out, max64, u64_xor_nat _ _ (by decide) (mHigh_lt s), not_high hs, u64_xor_nat _ _ (HX2.out.small k) hMs])
  rw [HE.out]
  have hst := HX2.out.store k (g0 k ^^^ mLow s) (xor64 (HX2.out.small k) hMs) (fun j hj h1 h2 => by
    have := HXY.out
    rw [Nat.testBit_xor, mLow_tb, HX2.out.clean' hj h1 h2, decide_eq_false (by omega)]; rfl)
  have HS := Lib.hid hst
  have HO1 : Hid (Only [b2] w2 (w2.setCell ⟨b2, k, none⟩ (.int .u64 ((g0 k ^^^ mLow s : Nat) : Int)))) := Lib.hid ((Only.refl [b2] w2).setCell (Or.inl (by simp)) _)
  have x2' := hst.set_cell
  clear hst k0 k1 k2 k3
  have hmc : m ≤ c2 := by omega
  have a4 : m - k = D := by have := HXY.out; omega
  go_wp2_with fail
  clear c1 c2' x2'
  go_loopw [53] (fun iv wr => ∃ i : Nat, i ≤ D ∧ iv = .int .i64 i ∧ Hid (BSet wr p b2 n2 c2 y (flp (upd g0 k (g0 k ^^^ mLow s)) k i) ∧ Only [b2] w2 wr)) (fun iv _ => D - (intOf iv).toNat)
  case atStart => exact ⟨0, Nat.zero_le _, rfl, by rw [flp_zero]; exact HS.out.drewN 1, HO1.out.drewN 1⟩
  case round =>
    obtain ⟨i, hiD, rfl, hR⟩ := hrel
    have HR : Hid (BSet wr p b2 n2 c2 y (flp (upd g0 k (g0 k ^^^ mLow s)) k i) ∧ Only [b2] w2 wr) := hR
    clear hR
    have d1 := HR.out.1.set_cell
    by_cases hi2 : i < D
    · obtain ⟨q, hq⟩ : ∃ q, q = k + i := ⟨_, rfl⟩
      have hqi : (k : Int) + (i : Int) = (q : Int) := by omega
      have hqm : q < m := by have := HXY.out; omega
      have hqn : q < n2 := by omega
      have d2 := HR.out.1.word hqn
      have d3 := HR.out.1.wd.free q
      have e0 : flp (upd g0 k (g0 k ^^^ mLow s)) k i q = upd g0 k (g0 k ^^^ mLow s) q := by rw [hq]; exact flp_at _ _ _
      rw [e0] at d2
      obtain ⟨X, hX⟩ : ∃ X, X = upd g0 k (g0 k ^^^ mLow s) q := ⟨_, rfl⟩
      rw [← hX] at d2
      have hXl : X < 18446744073709551616 := by rw [hX, ← e0]; exact HR.out.1.small q
      have HXX := Lib.hid hX
      have HQ := Lib.hid hq
      have hw1 : IntKind.i64.wrap (q : Int) = (q : Int) := IntWalk.i64_in _ (by omega)
      clear e0 hX hq
      go_wp2_with fail
      have k0 : (0 : Int) ≤ (q : Int) := by omega
      have k1 : (q : Int) < (n2 : Int) := by omega
      have k2 : ((q : Int)).toNat = q := by omega
      refine wp_region_still_tail 18 (by kernel_rfl) (by kernel_rfl) ?_
      simp only [List.take_succ_cons, List.take_zero, List.drop_succ_cons, List.drop_zero]
      repeat still_step
      refine wpStill_nil ?_
      change wpList _ _ _ _ _ wr.drew
      have HE3 : Hid (bits BinOp.xor IntKind.u64 IntKind.u64.max (X : Int) = ((18446744073709551615 ^^^ X : Nat) : Int)) := Lib.hid (by
        rw [max64, u64_xor_nat _ _ (by decide) hXl])
      rw [HE3.out]
      clear k0 k1 k2 hw1
      go_wp2_with fail
      go_roundw
      case rel =>
        refine ⟨i + 1, by omega, by go_num, BSet.drewN (k := 1) ?_, (HR.out.2.setCell (Or.inl (by simp)) _).drewN 1⟩
        have := HR.out.1.store q (18446744073709551615 ^^^ X) (xor64 (by decide) hXl) (fun j hj h1 h2 => by
          have := HXY.out
          exfalso; omega)
        have e1 := flp_next (upd g0 k (g0 k ^^^ mLow s)) k i
        rw [← HQ.out, ← HXX.out] at e1
        rwa [e1] at this
      case measure => simp [intOf]; omega
    · have hi3 : i = D := by omega
      have HR2 : Hid (BSet wr p b2 n2 c2 y (flp (upd g0 k (g0 k ^^^ mLow s)) k D) ∧ Only [b2] w2 wr) := by have := HR.out; rwa [hi3] at this
      have hiF : decide (i < D) = false := decide_eq_false hi2
      clear hi3 hi2
      go_wp2_with fail
      rw [HN.out]
      refine (hwy _).mono ?_; rintro e' w' ⟨rfl, rfl⟩
      go_wp2_with fail
      have d2 := HR2.out.1.word hmn
      have d3 := HR2.out.1.wd.free m
      have e0 : flp (upd g0 k (g0 k ^^^ mLow s)) k D m = upd g0 k (g0 k ^^^ mLow s) m := by rw [HXY.out.2.2.2]; exact flp_at _ _ _
      rw [e0] at d2
      obtain ⟨X, hX⟩ : ∃ X, X = upd g0 k (g0 k ^^^ mLow s) m := ⟨_, rfl⟩
      rw [← hX] at d2
      have hXl : X < 18446744073709551616 := by rw [hX, ← e0]; exact HR2.out.1.small m
      have HXX := Lib.hid hX
      have HQ0 := Lib.hid e0
      clear e0 hX
      have k0 : (0 : Int) ≤ (m : Int) := by omega
      have k1 : (m : Int) < (n2 : Int) := by omega
      have k2 : ((m : Int)).toNat = m := by omega
      have k3 : ((d : Int)).toNat = d := by omega
      refine wp_region_still_tail 12 (by kernel_rfl) (by kernel_rfl) ?_
      simp only [List.take_succ_cons, List.take_zero, List.drop_succ_cons, List.drop_zero]
      repeat still_step
      still_call ((hwd _).mono fun _ _ ⟨he, hw⟩ => ⟨he, hw.symm⟩)
      repeat still_step
      refine wpStill_nil ?_
      change wpList _ _ _ _ _ wr.drew
      have HE2 : Hid (bits BinOp.xor IntKind.u64 (X : Int) (18446744073709551615 / 2 ^ (min d 64)) = ((X ^^^ mLow e : Nat) : Int)) := Lib.hid (by rw [HG.out, u64_xor_nat _ _ hXl hMe])
      rw [HE2.out]
      clear k0 k1 k2 k3
      go_wp2_with fail
      have hst := HR2.out.1.store m (X ^^^ mLow e) (xor64 hXl hMe) (fun j hj h1 h2 => by
        have := HXY.out
        rw [Nat.testBit_xor, mLow_tb, HXX.out, ← HQ0.out, HR2.out.1.clean' hj h1 h2, decide_eq_false (by omega)]; rfl)
      have hst2 := hst.drewN 1
      have hon : Only [b2] w2 ((wr.setCell ⟨b2, m, none⟩ (.int .u64 ((X ^^^ mLow e : Nat) : Int))).drewN 1) := (HR2.out.2.setCell (Or.inl (by simp)) _).drewN 1
      have e5 : upd (flp (upd g0 k (g0 k ^^^ mLow s)) k D) m (X ^^^ mLow e) = upd (flp (upd g0 k (g0 k ^^^ mLow s)) k D) (k + D) (upd g0 k (g0 k ^^^ mLow s) (k + D) ^^^ mLow e) := by rw [HXX.out, HXY.out.2.2.2]
      rw [e5] at hst2
      go_ret
      refine ⟨rfl, b2, n2, c2, _, hst2, fun j hj => ?_, ?_, ?_, HB.out.2.2⟩
      · rw [turned1 _ hs he (by have := HXY.out; omega), ← HXY.out.1, ← HXY.out.2.1]
        congr 1
        unfold bit
        have hjn : j / 64 < n2 := by have := HN2.out; unfold wn at this; omega
        rw [HGW.out _ hjn]
        by_cases h1 : j / 64 < n
        · rw [if_pos h1]
          by_cases h2 : j < len
          · rw [decide_eq_true h2, Bool.true_and]
          · rw [decide_eq_false h2, Bool.false_and]; exact H.out.clean j (by omega) (by omega)
        · rw [if_neg h1, Nat.zero_testBit, decide_eq_false (show ¬ j < len by have := H.out.n_eq; unfold wn at this; omega), Bool.false_and]
      · refine Only.new (B := w.heap.size) HB.out.1 (hon.mono fun k _ hk => ?_) (Nat.le_refl _)
        have := HB.out.2.1
        simp at hk ⊢
        omega
      · have := HB.out.2.1
        omega

end Go.Proofs.Ytpmnpaannbhoeaa
