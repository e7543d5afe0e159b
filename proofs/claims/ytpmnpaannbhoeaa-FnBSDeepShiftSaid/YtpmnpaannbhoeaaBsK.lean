/- SetRange. -/
import Derived.Test.YtpmnpaannbhoeaaBsJ
namespace Go.Proofs.Ytpmnpaannbhoeaa
open Go.RowKit Pop

theorem sF {s : Nat} (hs : s < 64) : IntKind.u64.wrap (18446744073709551615 * 2 ^ s) = (mHigh s : Int) := by
  have h := pow64 s hs
  have h1 := Nat.two_pow_pos s
  have e : 18446744073709551615 * 2 ^ s % 18446744073709551616 = mHigh s := by
    unfold mHigh
    generalize 2 ^ s = q at *
    omega
  rw [show (18446744073709551615 : Int) * 2 ^ s = ((18446744073709551615 * 2 ^ s : Nat) : Int) from by rw [Int.natCast_mul, Int.natCast_pow]; rfl, IntKind.wrap_u64, ← e, Int.natCast_emod]; rfl
theorem sG {e d : Nat} (he : e ≤ 64) (hd : d = 64 - e) : (18446744073709551615 : Int) / 2 ^ (min d 64) = (mLow e : Int) := by rw [hd, Nat.min_eq_left (by omega)]; exact all_div e he
theorem mTop_lt {e : Nat} (he : e ≤ 64) : mLow e < 18446744073709551616 := by
  have : 2 ^ e ≤ 2 ^ 64 := Nat.pow_le_pow_right (by decide) he
  have := Nat.two_pow_pos e
  unfold mLow; omega
theorem or64 {a b : Nat} (ha : a < 18446744073709551616) (hb : b < 18446744073709551616) : a ||| b < 18446744073709551616 := Nat.or_lt_two_pow (n := 64) ha hb
theorem and64r {a b : Nat} (hb : b < 18446744073709551616) : a &&& b < 18446744073709551616 := Nat.and_lt_two_pow (n := 64) a hb
/-- The words on the way: the first one set from s on, those behind it whole. -/
def fil (f : Nat → Nat) (k s i : Nat) : Nat → Nat := fun q => if q = k then f k ||| mHigh s else if k < q ∧ q < i then 18446744073709551615 else f q
theorem fil_first (f : Nat → Nat) (k s : Nat) : upd f k (f k ||| mHigh s) = fil f k s (k + 1) := by
  funext q
  unfold upd fil
  by_cases h : q = k
  · rw [if_pos h, if_pos h]
  · rw [if_neg h, if_neg h, if_neg (by omega)]
theorem fil_next (f : Nat → Nat) (k s i : Nat) (h : k < i) : upd (fil f k s i) i 18446744073709551615 = fil f k s (i + 1) := by
  funext q
  unfold upd fil
  by_cases h1 : q = i
  · rw [if_pos h1, if_neg (by omega), if_pos (by omega)]
  · rw [if_neg h1]
    by_cases h2 : q = k
    · rw [if_pos h2, if_pos h2]
    · rw [if_neg h2, if_neg h2]
      by_cases h3 : k < q ∧ q < i
      · rw [if_pos h3, if_pos (by omega)]
      · rw [if_neg h3, if_neg (by omega)]
theorem fil_small {f : Nat → Nat} (h : ∀ i, f i < 18446744073709551616) (k s i q : Nat) : fil f k s i q < 18446744073709551616 := by
  unfold fil
  split
  · exact or64 (h _) (mHigh_lt s)
  · split
    · decide
    · exact h q
/-- What the words hold afterwards. -/
theorem one_bit (f : Nat → Nat) {k s e : Nat} (hs : s < 64) (he : e ≤ 64) (j : Nat) : bit (upd f k (f k ||| (mHigh s &&& mLow e))) j = (bit f j || (decide (64 * k + s ≤ j) && decide (j < 64 * k + e))) := by
  unfold bit upd
  have hj := Nat.mod_lt j (show 0 < 64 by decide)
  by_cases h : j / 64 = k
  · rw [if_pos h, Nat.testBit_or, Nat.testBit_and, mHigh_tb hs hj, mLow_tb, h]
    congr 2
    · exact decide_eq_decide.2 (by omega)
    · exact decide_eq_decide.2 (by omega)
  · rw [if_neg h]
    have : (decide (64 * k + s ≤ j) && decide (j < 64 * k + e)) = false := by
      by_cases h1 : 64 * k + s ≤ j
      · rw [decide_eq_false (show ¬ j < 64 * k + e by omega), Bool.and_false]
      · rw [decide_eq_false h1, Bool.false_and]
    rw [this, Bool.or_false]
theorem two_bit (f : Nat → Nat) {k s m e : Nat} (hs : s < 64) (_he0 : 0 < e) (he : e ≤ 64) (hkm : k < m) (j : Nat) : bit (upd (fil f k s m) m (f m ||| mLow e)) j = (bit f j || (decide (64 * k + s ≤ j) && decide (j < 64 * m + e))) := by
  unfold bit upd fil
  have hj := Nat.mod_lt j (show 0 < 64 by decide)
  by_cases h : j / 64 = m
  · rw [if_pos h, Nat.testBit_or, mLow_tb, h, decide_eq_true (show 64 * k + s ≤ j by omega), Bool.true_and]
    congr 1
    exact decide_eq_decide.2 (by omega)
  · rw [if_neg h]
    by_cases h1 : j / 64 = k
    · rw [if_pos h1, Nat.testBit_or, mHigh_tb hs hj, h1, decide_eq_true (show j < 64 * m + e by omega), Bool.and_true]
      congr 1
      exact decide_eq_decide.2 (by omega)
    · rw [if_neg h1]
      by_cases h2 : k < j / 64 ∧ j / 64 < m
      · rw [if_pos h2, ones_tb _ hj, decide_eq_true (show 64 * k + s ≤ j by omega), decide_eq_true (show j < 64 * m + e by omega)]; simp
      · rw [if_neg h2]
        have : (decide (64 * k + s ≤ j) && decide (j < 64 * m + e)) = false := by
          by_cases h3 : 64 * k + s ≤ j
          · rw [decide_eq_false (show ¬ j < 64 * m + e by omega), Bool.and_false]
          · rw [decide_eq_false h3, Bool.false_and]
        rw [this, Bool.or_false]

set_option maxRecDepth 100000 in
set_option maxHeartbeats 1000000 in
theorem sr_k1 {w : World} {p b n c len : Nat} {f : Nat → Nat} (h : BSet w p b n c len f) (x y k s e : Nat) (hx : x = 64 * k + s) (hs : s < 64) (hy : y = 64 * k + e) (he0 : 0 < e) (he : e ≤ 64) (hxy : x < y)  (hg : y ≤ len) (hl : len ≤ 99999) (hy2 : y ≤ 99999) (_hcm : c ≤ 200000) :
    Calls Try.prog 71 #[.pointer (some ⟨p, 0, none⟩), .int .u64 x, .int .u64 y] w fun e' w' => e' = .returned (.pointer (some ⟨p, 0, none⟩)) ∧ ∃ g, BSet w' p b n c len g ∧ (∀ j, bit g j = (bit f j || (decide (x ≤ j) && decide (j < y)))) ∧ Only [b] w w' := by
  have x0 := h.len_cell
  have x1 := h.set_cell
  have H := Lib.hid h
  obtain ⟨z, hz⟩ : ∃ z : Nat, z = y - 1 := ⟨_, rfl⟩
  have z1 : (y : Int) - 1 = (z : Int) := by omega
  have z2 : z < len := by omega
  have a1 : (x : Int) / 64 = (k : Int) := by omega
  have a2 : (z : Int) / 64 = (k : Int) := by omega
  have hwx : ∀ w, Calls Try.prog 80 #[.int .u64 x] w fun e' w' => e' = .returned (.int .u64 (s : Int)) ∧ w = w' := fun w => by
    have := wordsIndex_any x w (by omega)
    rwa [show x % 64 = s by omega] at this
  obtain ⟨d, hd⟩ : ∃ d, d = 64 - e := ⟨_, rfl⟩
  obtain ⟨Y, hY⟩ : ∃ Y : Nat, Y = 18446744073709551616 - y := ⟨_, rfl⟩
  have hwy : ∀ w, Calls Try.prog 80 #[.int .u64 Y] w fun e' w' => e' = .returned (.int .u64 (d : Int)) ∧ w = w' := fun w => by
    have := wordsIndex_any Y w (by omega)
    rwa [show Y % 64 = d by omega] at this
  have HF := Lib.hid (sF hs)
  have HG := Lib.hid (sG he hd)
  have HXY : Hid (x = 64 * k + s ∧ y = 64 * k + e ∧ z = y - 1) := ⟨hx, hy, hz⟩
  have HN : Hid (IntKind.u64.wrap (-(y : Int)) = (Y : Int)) := Lib.hid (by rw [IntKind.wrap_u64]; omega)
  have hxy2 : decide (y ≤ x) = false := decide_eq_false (by omega)
  have hMl := mTop_lt he
  have hMh := mHigh_lt s
  clear h hx hy hd hY hz
  go_enter Try.func71, Try.ntmps71
  go_wp2_with fail
  have HX2 := H
  have hmn : k < n := by have := H.out.n_eq; have := HXY.out; unfold wn at *; omega
  have hnn : n ≤ 20000 := by rw [HX2.out.n_eq]; unfold wn; omega
  refine (hwx _).mono ?_; rintro e' w' ⟨rfl, rfl⟩
  have c1 := HX2.out.word hmn
  have c2' := HX2.out.wd.free k
  have c3 := HX2.out.word (i := k) (by omega)
  have c4 := HX2.out.wd.free k
  go_wp2_with fail
  rw [HF.out, HN.out]
  refine (hwy _).mono ?_; rintro e' w' ⟨rfl, rfl⟩
  go_wp2_with fail
  have HE : Hid (bits BinOp.or IntKind.u64 (f k : Int) (bits BinOp.and IntKind.u64 (mHigh s : Int) (18446744073709551615 / 2 ^ (min d 64))) = ((f k ||| (mHigh s &&& mLow e) : Nat) : Int)) := Lib.hid (by rw [HG.out, u64_and_nat _ _ hMh hMl, u64_or_nat _ _ (HX2.out.small k) (and64r hMl)])
  rw [HE.out]
  have hst := HX2.out.store k (f k ||| (mHigh s &&& mLow e)) (or64 (HX2.out.small k) (and64r hMl)) (fun j hj h1 h2 => by
    have := HXY.out
    rw [Nat.testBit_or, Nat.testBit_and, mLow_tb, HX2.out.clean' hj h1 h2, decide_eq_false (by omega)]; simp)
  have hon : Only [b] w (w.setCell ⟨b, k, none⟩ (.int .u64 ((f k ||| (mHigh s &&& mLow e) : Nat) : Int))) := (Only.refl [b] w).setCell (Or.inl (by simp)) _
  go_ret
  refine ⟨rfl, _, hst, fun j => ?_, hon⟩
  rw [one_bit _ hs he, ← HXY.out.1, ← HXY.out.2.1]

set_option maxRecDepth 100000 in
set_option maxHeartbeats 1000000 in
theorem sr_k2 {w : World} {p b n c len : Nat} {f : Nat → Nat} (h : BSet w p b n c len f) (x y k s m e : Nat) (hx : x = 64 * k + s) (hs : s < 64) (hy : y = 64 * m + e) (he0 : 0 < e) (he : e ≤ 64) (hxy : x < y) (hkm : k < m) (hg : y ≤ len) (hl : len ≤ 99999) (hy2 : y ≤ 99999) (_hcm : c ≤ 200000) :
    Calls Try.prog 71 #[.pointer (some ⟨p, 0, none⟩), .int .u64 x, .int .u64 y] w fun e' w' => e' = .returned (.pointer (some ⟨p, 0, none⟩)) ∧ ∃ g, BSet w' p b n c len g ∧ (∀ j, bit g j = (bit f j || (decide (x ≤ j) && decide (j < y)))) ∧ Only [b] w w' := by
  have x0 := h.len_cell
  have x1 := h.set_cell
  have H := Lib.hid h
  obtain ⟨z, hz⟩ : ∃ z : Nat, z = y - 1 := ⟨_, rfl⟩
  have z1 : (y : Int) - 1 = (z : Int) := by omega
  have z2 : z < len := by omega
  have a1 : (x : Int) / 64 = (k : Int) := by omega
  have a2 : (z : Int) / 64 = (m : Int) := by omega
  have hwx : ∀ w, Calls Try.prog 80 #[.int .u64 x] w fun e' w' => e' = .returned (.int .u64 (s : Int)) ∧ w = w' := fun w => by
    have := wordsIndex_any x w (by omega)
    rwa [show x % 64 = s by omega] at this
  obtain ⟨d, hd⟩ : ∃ d, d = 64 - e := ⟨_, rfl⟩
  obtain ⟨Y, hY⟩ : ∃ Y : Nat, Y = 18446744073709551616 - y := ⟨_, rfl⟩
  have hwy : ∀ w, Calls Try.prog 80 #[.int .u64 Y] w fun e' w' => e' = .returned (.int .u64 (d : Int)) ∧ w = w' := fun w => by
    have := wordsIndex_any Y w (by omega)
    rwa [show Y % 64 = d by omega] at this
  have HF := Lib.hid (sF hs)
  have HG := Lib.hid (sG he hd)
  have HXY : Hid (x = 64 * k + s ∧ y = 64 * m + e ∧ z = y - 1) := ⟨hx, hy, hz⟩
  have HN : Hid (IntKind.u64.wrap (-(y : Int)) = (Y : Int)) := Lib.hid (by rw [IntKind.wrap_u64]; omega)
  have hxy2 : decide (y ≤ x) = false := decide_eq_false (by omega)
  have hMl := mTop_lt he
  have hMh := mHigh_lt s
  have hke : decide (k = m) = false := decide_eq_false (by omega)
  have hkI : ((k : Int) == (m : Int)) = false := by simp; omega
  clear h hx hy hd hY hz
  go_enter Try.func71, Try.ntmps71
  go_wp2_with fail
  have HX2 := H
  have hmn : m < n := by have := H.out.n_eq; have := HXY.out; unfold wn at *; omega
  have hnn : n ≤ 20000 := by rw [HX2.out.n_eq]; unfold wn; omega
  refine (hwx _).mono ?_; rintro e' w' ⟨rfl, rfl⟩
  have c1 := HX2.out.word hmn
  have c2' := HX2.out.wd.free m
  have c3 := HX2.out.word (i := k) (by omega)
  have c4 := HX2.out.wd.free k
  go_wp2_with fail
  rw [HF.out, HN.out]
  refine (hwy _).mono ?_; rintro e' w' ⟨rfl, rfl⟩
  go_wp2_with fail
  have HE : Hid (bits BinOp.or IntKind.u64 (f k : Int) (mHigh s : Int) = ((f k ||| mHigh s : Nat) : Int)) := Lib.hid (u64_or_nat _ _ (HX2.out.small k) hMh)
  rw [HE.out]
  have hst := HX2.out.store k (f k ||| mHigh s) (or64 (HX2.out.small k) hMh) (fun j hj h1 h2 => by
    have := HXY.out
    exfalso; omega)
  rw [fil_first] at hst
  have HS := Lib.hid hst
  have HO1 : Hid (Only [b] w (w.setCell ⟨b, k, none⟩ (.int .u64 ((f k ||| mHigh s : Nat) : Int)))) := Lib.hid ((Only.refl [b] w).setCell (Or.inl (by simp)) _)
  clear hst c1 c2' c3 c4
  go_loopw [11] (fun iv wr => ∃ i : Nat, k + 1 ≤ i ∧ i ≤ m ∧ iv = .int .u64 i ∧ Hid (BSet wr p b n c len (fil f k s i) ∧ Only [b] w wr)) (fun iv _ => m - (intOf iv).toNat)
  case atStart => exact ⟨k + 1, Nat.le_refl _, hkm, by go_num, HS.out, HO1.out⟩
  case round =>
    obtain ⟨i, hki, him, rfl, hR⟩ := hrel
    have HR : Hid (BSet wr p b n c len (fil f k s i) ∧ Only [b] w wr) := hR
    clear hR
    have d1 := HR.out.1.set_cell
    by_cases hin : i < m
    · have d2 := HR.out.1.word (i := i) (by omega)
      have d3 := HR.out.1.wd.free i
      go_wp2_with fail
      go_roundw
      case rel =>
        refine ⟨i + 1, by omega, by omega, by go_num, ?_, HR.out.2.setCell (Or.inl (by simp)) _⟩
        have := HR.out.1.store i 18446744073709551615 (by decide) (fun j hj h1 h2 => by
          have := HXY.out
          exfalso; omega)
        rwa [fil_next _ _ _ _ (by omega)] at this
      case measure => simp [intOf]; omega
    · have him2 : i = m := by omega
      have HR2 : Hid (BSet wr p b n c len (fil f k s m) ∧ Only [b] w wr) := by have := HR.out; rwa [him2] at this
      have e3 : fil f k s m m = f m := by unfold fil; rw [if_neg (by omega), if_neg (by omega)]
      have d2 := HR2.out.1.word hmn
      have d3 := HR2.out.1.wd.free m
      rw [e3] at d2
      have HE3 := Lib.hid e3
      clear him2 e3
      go_wp2_with fail
      have HE2 : Hid (bits BinOp.or IntKind.u64 (f m : Int) (18446744073709551615 / 2 ^ (min d 64)) = ((f m ||| mLow e : Nat) : Int)) := Lib.hid (by rw [HG.out, u64_or_nat _ _ (HX2.out.small m) hMl])
      rw [HE2.out]
      have hst := HR2.out.1.store m (f m ||| mLow e) (or64 (HX2.out.small m) hMl) (fun j hj h1 h2 => by
        have := HXY.out
        rw [Nat.testBit_or, mLow_tb, HX2.out.clean' hj h1 h2, decide_eq_false (by omega)]; rfl)
      have hon : Only [b] w (wr.setCell ⟨b, m, none⟩ (.int .u64 ((f m ||| mLow e : Nat) : Int))) := HR2.out.2.setCell (Or.inl (by simp)) _
      go_ret
      refine ⟨rfl, _, hst, fun j => ?_, hon⟩
      rw [two_bit _ hs he0 he hkm, ← HXY.out.1, ← HXY.out.2.1]

set_option maxRecDepth 100000 in
set_option maxHeartbeats 1000000 in
theorem sr_g1 {w : World} {p b n c len : Nat} {f : Nat → Nat} (h : BSet w p b n c len f) (x y k s e : Nat) (hx : x = 64 * k + s) (hs : s < 64) (hy : y = 64 * k + e) (he0 : 0 < e) (he : e ≤ 64) (hxy : x < y)  (hg : len < y) (hl : len ≤ 99999) (hy2 : y ≤ 99999) (hcm : c ≤ 200000) :
    Calls Try.prog 71 #[.pointer (some ⟨p, 0, none⟩), .int .u64 x, .int .u64 y] w fun e' w' => e' = .returned (.pointer (some ⟨p, 0, none⟩)) ∧ ∃ b2 n2 c2 g, BSet w' p b2 n2 c2 y g ∧ (∀ j, j < y → bit g j = ((decide (j < len) && bit f j) || (decide (x ≤ j) && decide (j < y)))) ∧ Only [p, b] w w' ∧ (b2 = b ∨ w.heap.size ≤ b2) ∧ c2 ≤ 200000 := by
  have x0 := h.len_cell
  have x1 := h.set_cell
  have H := Lib.hid h
  obtain ⟨z, hz⟩ : ∃ z : Nat, z = y - 1 := ⟨_, rfl⟩
  have z1 : (y : Int) - 1 = (z : Int) := by omega
  have z2 : len ≤ z := by omega
  have a1 : (x : Int) / 64 = (k : Int) := by omega
  have a2 : (z : Int) / 64 = (k : Int) := by omega
  have hwx : ∀ w, Calls Try.prog 80 #[.int .u64 x] w fun e' w' => e' = .returned (.int .u64 (s : Int)) ∧ w = w' := fun w => by
    have := wordsIndex_any x w (by omega)
    rwa [show x % 64 = s by omega] at this
  obtain ⟨d, hd⟩ : ∃ d, d = 64 - e := ⟨_, rfl⟩
  obtain ⟨Y, hY⟩ : ∃ Y : Nat, Y = 18446744073709551616 - y := ⟨_, rfl⟩
  have hwy : ∀ w, Calls Try.prog 80 #[.int .u64 Y] w fun e' w' => e' = .returned (.int .u64 (d : Int)) ∧ w = w' := fun w => by
    have := wordsIndex_any Y w (by omega)
    rwa [show Y % 64 = d by omega] at this
  have HF := Lib.hid (sF hs)
  have HG := Lib.hid (sG he hd)
  have HXY : Hid (x = 64 * k + s ∧ y = 64 * k + e ∧ z = y - 1) := ⟨hx, hy, hz⟩
  have HN : Hid (IntKind.u64.wrap (-(y : Int)) = (Y : Int)) := Lib.hid (by rw [IntKind.wrap_u64]; omega)
  have hxy2 : decide (y ≤ x) = false := decide_eq_false (by omega)
  have hMl := mTop_lt he
  have hMh := mHigh_lt s
  clear h hx hy hd hY hz
  go_enter Try.func71, Try.ntmps71
  go_wp2_with fail
  refine (extend_words H.out z z2 (by have := HXY.out.2.2; omega) hcm).mono ?_
  rintro e' w2 ⟨rfl, b2, c2, g0, hB, hgw, ho, hb, hc⟩
  obtain ⟨n2, hn2⟩ : ∃ n2, n2 = wn (z + 1) := ⟨_, rfl⟩
  have hz1 : z + 1 = y := by have := HXY.out.2.2; omega
  rw [← hn2] at hB hgw
  rw [hz1] at hB hn2
  have HB : Hid (Only [p, b] w w2 ∧ (b2 = b ∨ b2 = w.heap.size) ∧ c2 ≤ 200000) := ⟨ho, hb, hc⟩
  have HGW := Lib.hid hgw
  have x2 := hB.len_cell
  have x3 := hB.set_cell
  have HX2 := Lib.hid hB
  have hmn : k < n2 := by have := HXY.out; unfold wn at hn2; omega
  have HN2 := Lib.hid hn2
  clear hB hgw ho hb hc hz1 x0 x1 hn2
  go_wp2_with fail
  have hnn : n2 ≤ 20000 := by rw [HX2.out.n_eq]; unfold wn; omega
  refine (hwx _).mono ?_; rintro e' w' ⟨rfl, rfl⟩
  have c1 := HX2.out.word hmn
  have c2' := HX2.out.wd.free k
  have c3 := HX2.out.word (i := k) (by omega)
  have c4 := HX2.out.wd.free k
  go_wp2_with fail
  rw [HF.out, HN.out]
  refine (hwy _).mono ?_; rintro e' w' ⟨rfl, rfl⟩
  go_wp2_with fail
  have HE : Hid (bits BinOp.or IntKind.u64 (g0 k : Int) (bits BinOp.and IntKind.u64 (mHigh s : Int) (18446744073709551615 / 2 ^ (min d 64))) = ((g0 k ||| (mHigh s &&& mLow e) : Nat) : Int)) := Lib.hid (by rw [HG.out, u64_and_nat _ _ hMh hMl, u64_or_nat _ _ (HX2.out.small k) (and64r hMl)])
  rw [HE.out]
  have hst := HX2.out.store k (g0 k ||| (mHigh s &&& mLow e)) (or64 (HX2.out.small k) (and64r hMl)) (fun j hj h1 h2 => by
    have := HXY.out
    rw [Nat.testBit_or, Nat.testBit_and, mLow_tb, HX2.out.clean' hj h1 h2, decide_eq_false (by omega)]; simp)
  have hon : Only [b2] w2 (w2.setCell ⟨b2, k, none⟩ (.int .u64 ((g0 k ||| (mHigh s &&& mLow e) : Nat) : Int))) := (Only.refl [b2] w2).setCell (Or.inl (by simp)) _
  go_ret
  refine ⟨rfl, b2, n2, c2, _, hst, fun j hj => ?_, ?_, ?_, HB.out.2.2⟩
  · rw [one_bit _ hs he, ← HXY.out.1, ← HXY.out.2.1]
    congr 1
    unfold bit
    have hjn : j / 64 < n2 := by have := HN2.out; unfold wn at this; omega
    rw [HGW.out _ hjn]
    by_cases h1 : j / 64 < n
    · rw [if_pos h1]
      by_cases h2 : j < len
      · rw [decide_eq_true h2, Bool.true_and]
      · rw [decide_eq_false h2, Bool.false_and]; exact H.out.clean j (by omega) (by omega)
    · rw [if_neg h1, Nat.zero_testBit, decide_eq_false (show ¬ j < len by have := H.out.n_eq; unfold wn at this; omega), Bool.false_and]
  · refine Only.new (B := w.heap.size) HB.out.1 (hon.mono fun k _ hk => ?_) (Nat.le_refl _)
    have := HB.out.2.1
    simp at hk ⊢
    omega
  · have := HB.out.2.1
    omega

set_option maxRecDepth 100000 in
set_option maxHeartbeats 1000000 in
theorem sr_g2 {w : World} {p b n c len : Nat} {f : Nat → Nat} (h : BSet w p b n c len f) (x y k s m e : Nat) (hx : x = 64 * k + s) (hs : s < 64) (hy : y = 64 * m + e) (he0 : 0 < e) (he : e ≤ 64) (hxy : x < y) (hkm : k < m) (hg : len < y) (hl : len ≤ 99999) (hy2 : y ≤ 99999) (hcm : c ≤ 200000) :
    Calls Try.prog 71 #[.pointer (some ⟨p, 0, none⟩), .int .u64 x, .int .u64 y] w fun e' w' => e' = .returned (.pointer (some ⟨p, 0, none⟩)) ∧ ∃ b2 n2 c2 g, BSet w' p b2 n2 c2 y g ∧ (∀ j, j < y → bit g j = ((decide (j < len) && bit f j) || (decide (x ≤ j) && decide (j < y)))) ∧ Only [p, b] w w' ∧ (b2 = b ∨ w.heap.size ≤ b2) ∧ c2 ≤ 200000 := by
  have x0 := h.len_cell
  have x1 := h.set_cell
  have H := Lib.hid h
  obtain ⟨z, hz⟩ : ∃ z : Nat, z = y - 1 := ⟨_, rfl⟩
  have z1 : (y : Int) - 1 = (z : Int) := by omega
  have z2 : len ≤ z := by omega
  have a1 : (x : Int) / 64 = (k : Int) := by omega
  have a2 : (z : Int) / 64 = (m : Int) := by omega
  have hwx : ∀ w, Calls Try.prog 80 #[.int .u64 x] w fun e' w' => e' = .returned (.int .u64 (s : Int)) ∧ w = w' := fun w => by
    have := wordsIndex_any x w (by omega)
    rwa [show x % 64 = s by omega] at this
  obtain ⟨d, hd⟩ : ∃ d, d = 64 - e := ⟨_, rfl⟩
  obtain ⟨Y, hY⟩ : ∃ Y : Nat, Y = 18446744073709551616 - y := ⟨_, rfl⟩
  have hwy : ∀ w, Calls Try.prog 80 #[.int .u64 Y] w fun e' w' => e' = .returned (.int .u64 (d : Int)) ∧ w = w' := fun w => by
    have := wordsIndex_any Y w (by omega)
    rwa [show Y % 64 = d by omega] at this
  have HF := Lib.hid (sF hs)
  have HG := Lib.hid (sG he hd)
  have HXY : Hid (x = 64 * k + s ∧ y = 64 * m + e ∧ z = y - 1) := ⟨hx, hy, hz⟩
  have HN : Hid (IntKind.u64.wrap (-(y : Int)) = (Y : Int)) := Lib.hid (by rw [IntKind.wrap_u64]; omega)
  have hxy2 : decide (y ≤ x) = false := decide_eq_false (by omega)
  have hMl := mTop_lt he
  have hMh := mHigh_lt s
  have hke : decide (k = m) = false := decide_eq_false (by omega)
  have hkI : ((k : Int) == (m : Int)) = false := by simp; omega
  clear h hx hy hd hY hz
  go_enter Try.func71, Try.ntmps71
  go_wp2_with fail
  refine (extend_words H.out z z2 (by have := HXY.out.2.2; omega) hcm).mono ?_
  rintro e' w2 ⟨rfl, b2, c2, g0, hB, hgw, ho, hb, hc⟩
  obtain ⟨n2, hn2⟩ : ∃ n2, n2 = wn (z + 1) := ⟨_, rfl⟩
  have hz1 : z + 1 = y := by have := HXY.out.2.2; omega
  rw [← hn2] at hB hgw
  rw [hz1] at hB hn2
  have HB : Hid (Only [p, b] w w2 ∧ (b2 = b ∨ b2 = w.heap.size) ∧ c2 ≤ 200000) := ⟨ho, hb, hc⟩
  have HGW := Lib.hid hgw
  have x2 := hB.len_cell
  have x3 := hB.set_cell
  have HX2 := Lib.hid hB
  have hmn : m < n2 := by have := HXY.out; unfold wn at hn2; omega
  have HN2 := Lib.hid hn2
  clear hB hgw ho hb hc hz1 x0 x1 hn2
  go_wp2_with fail
  have hnn : n2 ≤ 20000 := by rw [HX2.out.n_eq]; unfold wn; omega
  refine (hwx _).mono ?_; rintro e' w' ⟨rfl, rfl⟩
  have c1 := HX2.out.word hmn
  have c2' := HX2.out.wd.free m
  have c3 := HX2.out.word (i := k) (by omega)
  have c4 := HX2.out.wd.free k
  go_wp2_with fail
  rw [HF.out, HN.out]
  refine (hwy _).mono ?_; rintro e' w' ⟨rfl, rfl⟩
  go_wp2_with fail
  have HE : Hid (bits BinOp.or IntKind.u64 (g0 k : Int) (mHigh s : Int) = ((g0 k ||| mHigh s : Nat) : Int)) := Lib.hid (u64_or_nat _ _ (HX2.out.small k) hMh)
  rw [HE.out]
  have hst := HX2.out.store k (g0 k ||| mHigh s) (or64 (HX2.out.small k) hMh) (fun j hj h1 h2 => by
    have := HXY.out
    exfalso; omega)
  rw [fil_first] at hst
  have HS := Lib.hid hst
  have HO1 : Hid (Only [b2] w2 (w2.setCell ⟨b2, k, none⟩ (.int .u64 ((g0 k ||| mHigh s : Nat) : Int)))) := Lib.hid ((Only.refl [b2] w2).setCell (Or.inl (by simp)) _)
  clear hst c1 c2' c3 c4
  go_loopw [11] (fun iv wr => ∃ i : Nat, k + 1 ≤ i ∧ i ≤ m ∧ iv = .int .u64 i ∧ Hid (BSet wr p b2 n2 c2 y (fil g0 k s i) ∧ Only [b2] w2 wr)) (fun iv _ => m - (intOf iv).toNat)
  case atStart => exact ⟨k + 1, Nat.le_refl _, hkm, by go_num, HS.out, HO1.out⟩
  case round =>
    obtain ⟨i, hki, him, rfl, hR⟩ := hrel
    have HR : Hid (BSet wr p b2 n2 c2 y (fil g0 k s i) ∧ Only [b2] w2 wr) := hR
    clear hR
    have d1 := HR.out.1.set_cell
    by_cases hin : i < m
    · have d2 := HR.out.1.word (i := i) (by omega)
      have d3 := HR.out.1.wd.free i
      go_wp2_with fail
      go_roundw
      case rel =>
        refine ⟨i + 1, by omega, by omega, by go_num, ?_, HR.out.2.setCell (Or.inl (by simp)) _⟩
        have := HR.out.1.store i 18446744073709551615 (by decide) (fun j hj h1 h2 => by
          have := HXY.out
          exfalso; omega)
        rwa [fil_next _ _ _ _ (by omega)] at this
      case measure => simp [intOf]; omega
    · have him2 : i = m := by omega
      have HR2 : Hid (BSet wr p b2 n2 c2 y (fil g0 k s m) ∧ Only [b2] w2 wr) := by have := HR.out; rwa [him2] at this
      have e3 : fil g0 k s m m = g0 m := by unfold fil; rw [if_neg (by omega), if_neg (by omega)]
      have d2 := HR2.out.1.word hmn
      have d3 := HR2.out.1.wd.free m
      rw [e3] at d2
      have HE3 := Lib.hid e3
      clear him2 e3
      go_wp2_with fail
      have HE2 : Hid (bits BinOp.or IntKind.u64 (g0 m : Int) (18446744073709551615 / 2 ^ (min d 64)) = ((g0 m ||| mLow e : Nat) : Int)) := Lib.hid (by rw [HG.out, u64_or_nat _ _ (HX2.out.small m) hMl])
      rw [HE2.out]
      have hst := HR2.out.1.store m (g0 m ||| mLow e) (or64 (HX2.out.small m) hMl) (fun j hj h1 h2 => by
        have := HXY.out
        rw [Nat.testBit_or, mLow_tb, HX2.out.clean' hj h1 h2, decide_eq_false (by omega)]; rfl)
      have hon : Only [b2] w2 (wr.setCell ⟨b2, m, none⟩ (.int .u64 ((g0 m ||| mLow e : Nat) : Int))) := HR2.out.2.setCell (Or.inl (by simp)) _
      go_ret
      refine ⟨rfl, b2, n2, c2, _, hst, fun j hj => ?_, ?_, ?_, HB.out.2.2⟩
      · rw [two_bit _ hs he0 he hkm, ← HXY.out.1, ← HXY.out.2.1]
        congr 1
        unfold bit
        have hjn : j / 64 < n2 := by have := HN2.out; unfold wn at this; omega
        rw [HGW.out _ hjn]
        by_cases h1 : j / 64 < n
        · rw [if_pos h1]
          by_cases h2 : j < len
          · rw [decide_eq_true h2, Bool.true_and]
          · rw [decide_eq_false h2, Bool.false_and]; exact H.out.clean j (by omega) (by omega)
        · rw [if_neg h1, Nat.zero_testBit, decide_eq_false (show ¬ j < len by have := H.out.n_eq; unfold wn at this; omega), Bool.false_and]
      · refine Only.new (B := w.heap.size) HB.out.1 (hon.mono fun k _ hk => ?_) (Nat.le_refl _)
        have := HB.out.2.1
        simp at hk ⊢
        omega
      · have := HB.out.2.1
        omega

end Go.Proofs.Ytpmnpaannbhoeaa
