/- Bits between two places: OnesBetween, Rank. -/
import Derived.Test.YtpmnpaannbhoeaaBsH
namespace Go.Proofs.Ytpmnpaannbhoeaa
open Go.RowKit Pop

theorem cd_window (T : Nat → Bool) {s e : Nat} (hse : s ≤ e) : ∀ n, cd (fun j => T j && (decide (s ≤ j) && decide (j < e))) n + cd T (min s n) = cd T (min e n)
  | 0 => by simp [cd]
  | n + 1 => by
    have ih := cd_window T hse n
    rw [cd]
    by_cases h1 : n < s
    · rw [Nat.min_eq_right (show n ≤ s by omega), Nat.min_eq_right (show n ≤ e by omega)] at ih
      rw [Nat.min_eq_right (show n + 1 ≤ s by omega), Nat.min_eq_right (show n + 1 ≤ e by omega), decide_eq_false (show ¬ s ≤ n by omega)]
      simp
      omega
    · rw [Nat.min_eq_left (show s ≤ n by omega)] at ih
      rw [Nat.min_eq_left (show s ≤ n + 1 by omega), decide_eq_true (show s ≤ n by omega)]
      by_cases h2 : n < e
      · rw [Nat.min_eq_right (show n ≤ e by omega)] at ih
        rw [Nat.min_eq_right (show n + 1 ≤ e by omega), decide_eq_true h2, cd]
        simp
        omega
      · rw [Nat.min_eq_left (show e ≤ n by omega)] at ih
        rw [Nat.min_eq_left (show e ≤ n + 1 by omega), decide_eq_false h2]
        simp
        omega
/-- The masks. -/
def mLow (e : Nat) : Nat := 2 ^ e - 1
def mHigh (s : Nat) : Nat := 18446744073709551615 - (2 ^ s - 1)
def mBoth (e s : Nat) : Nat := (2 ^ e - 1) &&& (18446744073709551615 - (2 ^ s - 1))
theorem p64 {k : Nat} (hk : k < 64) : 2 ^ k - 1 < 18446744073709551616 ∧ 1 ≤ 2 ^ k := by have := pow64 k hk; have := Nat.two_pow_pos k; omega
theorem mLow_lt {k : Nat} (hk : k < 64) : mLow k < 18446744073709551616 := (p64 hk).1
theorem mHigh_lt (k : Nat) : mHigh k < 18446744073709551616 := by unfold mHigh; omega
theorem mBoth_lt {e : Nat} (s : Nat) (he : e < 64) : mBoth e s < 18446744073709551616 := Nat.lt_of_le_of_lt Nat.and_le_left (p64 he).1
theorem mLow_tb (e j : Nat) : (mLow e).testBit j = decide (j < e) := Nat.testBit_two_pow_sub_one e j
theorem mHigh_tb {s j : Nat} (hs : s < 64) (hj : j < 64) : (mHigh s).testBit j = decide (s ≤ j) := by
  rw [mHigh, not_tb _ _ (p64 hs).1 hj, Nat.testBit_two_pow_sub_one]
  by_cases h : j < s
  · rw [decide_eq_true h, decide_eq_false (by omega)]; rfl
  · rw [decide_eq_false h, decide_eq_true (by omega)]; rfl
theorem mBoth_tb {e s j : Nat} (hs : s < 64) (hj : j < 64) : (mBoth e s).testBit j = (decide (s ≤ j) && decide (j < e)) := by
  have h := mHigh_tb hs hj
  unfold mHigh at h
  rw [mBoth, Nat.testBit_and, Nat.testBit_two_pow_sub_one, h, Bool.and_comm]
theorem pc_low (x e : Nat) (he : e ≤ 64) : pc 64 (x &&& mLow e) = cd x.testBit e := by
  have h := cd_window x.testBit (Nat.zero_le e) 64
  rw [Nat.zero_min, Nat.min_eq_left he, show cd x.testBit 0 = 0 from rfl, Nat.add_zero] at h
  rw [pc_cd, ← h]
  exact cd_congr 64 fun j hj => by rw [Nat.testBit_and, mLow_tb, decide_eq_true (Nat.zero_le j), Bool.true_and]
theorem pc_high (x s : Nat) (hs : s < 64) : pc 64 (x &&& mHigh s) + cd x.testBit s = cd x.testBit 64 := by
  have h := cd_window x.testBit (show s ≤ 64 by omega) 64
  rw [Nat.min_eq_left (show s ≤ 64 by omega), Nat.min_self] at h
  have h2 : pc 64 (x &&& mHigh s) = cd (fun j => x.testBit j && (decide (s ≤ j) && decide (j < 64))) 64 := by
    rw [pc_cd]
    exact cd_congr 64 fun j hj => by rw [Nat.testBit_and, mHigh_tb hs hj, decide_eq_true hj, Bool.and_true]
  rw [h2]
  exact h
theorem pc_both (x e s : Nat) (hs : s < 64) (hse : s ≤ e) (he : e < 64) : pc 64 (x &&& mBoth e s) + cd x.testBit s = cd x.testBit e := by
  have h := cd_window x.testBit hse 64
  rw [Nat.min_eq_left (show s ≤ 64 by omega), Nat.min_eq_left (show e ≤ 64 by omega)] at h
  have h2 : pc 64 (x &&& mBoth e s) = cd (fun j => x.testBit j && (decide (s ≤ j) && decide (j < e))) 64 := by
    rw [pc_cd]
    exact cd_congr 64 fun j hj => by rw [Nat.testBit_and, mBoth_tb hs hj]
  rw [h2]
  exact h
/-- The bits of a set up into a word. -/
theorem cd_word {w : World} {p b n c len : Nat} {f : Nat → Nat} {S : Nat → Bool} (h : BSet w p b n c len f) (hS : ∀ j, S j = (decide (j < len) && bit f j)) {k e : Nat} (hk : k < n) (he : e ≤ 64) :
    cd S (64 * k + e) = cd S (64 * k) + cd (f k).testBit e := by
  rw [cd_add]
  congr 1
  exact cd_congr e fun j hj => (word_bit h hS hk (by omega)).symm
theorem cd_words {w : World} {p b n c len : Nat} {f : Nat → Nat} {S : Nat → Bool} (h : BSet w p b n c len f) (hS : ∀ j, S j = (decide (j < len) && bit f j)) (a : Nat) : ∀ m, a + m ≤ n → cd S (64 * (a + m)) = cd S (64 * a) + psum (fun i => f (a + i)) m
  | 0, _ => rfl
  | m + 1, hm => by
    rw [psum, ← Nat.add_assoc (cd S (64 * a)), ← cd_words h hS a m (by omega), pc_cd, show 64 * (a + (m + 1)) = 64 * (a + m) + 64 by omega, cd_word h hS (by omega) (Nat.le_refl _)]

theorem mLow_I {e : Nat} (he : e < 64) : IntKind.u64.wrap (IntKind.u64.wrap (2 ^ e) - 1) = (mLow e : Int) := by
  have := p64 he
  rw [wpow64 e he, show ((2 ^ e : Nat) : Int) - 1 = ((2 ^ e - 1 : Nat) : Int) by omega]
  exact wrapN64 _ this.1
theorem mBoth_I {e s : Nat} (he : e < 64) (hs : s < 64) : bits BinOp.andNot IntKind.u64 (IntKind.u64.wrap (IntKind.u64.wrap (2 ^ e) - 1)) (IntKind.u64.wrap (IntKind.u64.wrap (2 ^ s) - 1)) = (mBoth e s : Int) := by
  rw [mLow_I he, mLow_I hs]
  exact u64_andNot_nat _ _ (mLow_lt he) (mLow_lt hs)
theorem andBoth_I (x : Nat) {e s : Nat} (hx : x < 18446744073709551616) (he : e < 64) (hs : s < 64) : bits BinOp.and IntKind.u64 (x : Int) (bits BinOp.andNot IntKind.u64 (IntKind.u64.wrap (IntKind.u64.wrap (2 ^ e) - 1)) (IntKind.u64.wrap (IntKind.u64.wrap (2 ^ s) - 1))) = ((x &&& mBoth e s : Nat) : Int) := by
  rw [mBoth_I he hs]
  exact u64_and_nat _ _ hx (mBoth_lt s he)
theorem andLow_I (x : Nat) {e : Nat} (hx : x < 18446744073709551616) (he : e < 64) : bits BinOp.and IntKind.u64 (x : Int) (IntKind.u64.wrap (IntKind.u64.wrap (2 ^ e) - 1)) = ((x &&& mLow e : Nat) : Int) := by
  rw [mLow_I he]
  exact u64_and_nat _ _ hx (mLow_lt he)

theorem andHigh_I (x : Nat) {s : Nat} (hx : x < 18446744073709551616) (hs : s < 64) : bits BinOp.and IntKind.u64 (x : Int) (bits BinOp.xor IntKind.u64 IntKind.u64.max (IntKind.u64.wrap (IntKind.u64.wrap (2 ^ s) - 1))) = ((x &&& mHigh s : Nat) : Int) := by
  have e : (18446744073709551615 ^^^ mLow s) = mHigh s := word_eq (Nat.xor_lt_two_pow (n := 64) (by decide) (mLow_lt hs)) (mHigh_lt s) fun j hj => by
    rw [Nat.testBit_xor, ones_tb j hj, mLow_tb, mHigh_tb hs hj]
    by_cases h : j < s
    · rw [decide_eq_true h, decide_eq_false (by omega)]; rfl
    · rw [decide_eq_false h, decide_eq_true (by omega)]; rfl
  rw [mLow_I hs, show IntKind.u64.max = ((18446744073709551615 : Nat) : Int) from by decide, u64_xor_nat _ _ (by decide) (mLow_lt hs), e]
  exact u64_and_nat _ _ hx (mHigh_lt s)


set_option maxRecDepth 100000 in
set_option maxHeartbeats 1000000 in
theorem ones_zero {w : World} {p b n c len : Nat} {f : Nat → Nat} (h : BSet w p b n c len f) (x to : Nat) (hxy : min to len ≤ x) (_hl : len ≤ 100000) (_hto2 : to ≤ 100000) :
    Calls Try.prog 63 #[.pointer (some ⟨p, 0, none⟩), .int .u64 x, .int .u64 to] w fun e' w' => e' = .returned (.int .u64 0) ∧ w = w' := by
  have x0 := h.len_cell
  have x1 := h.set_cell
  have H := Lib.hid h
  clear h
  by_cases hc : len < to
  · have hy : len ≤ x := by omega
    go_enter Try.func63, Try.ntmps63
    go_wp2_with fail
    refine (panicIfNull_any _ _).mono ?_; rintro e' w' ⟨rfl, rfl⟩
    go_wp2_with fail
    go_ret
    exact ⟨rfl, rfl⟩
  · have hy : to ≤ x := by omega
    go_enter Try.func63, Try.ntmps63
    go_wp2_with fail
    refine (panicIfNull_any _ _).mono ?_; rintro e' w' ⟨rfl, rfl⟩
    go_wp2_with fail
    go_ret
    exact ⟨rfl, rfl⟩

set_option maxRecDepth 100000 in
set_option maxHeartbeats 1000000 in
theorem ones_one {w : World} {p b n c len : Nat} {f : Nat → Nat} (h : BSet w p b n c len f) (x y to k s e : Nat) (hx : x = 64 * k + s) (hy : y = 64 * k + e) (hse : s < e) (he : e < 64) (hto : min to len = y) (hl : len ≤ 100000) (hto2 : to ≤ 100000) :
    Calls Try.prog 63 #[.pointer (some ⟨p, 0, none⟩), .int .u64 x, .int .u64 to] w fun e' w' => e' = .returned (.int .u64 (pc 64 (f k &&& mBoth e s))) ∧ w = w' := by
  have x0 := h.len_cell
  have x1 := h.set_cell
  have H := Lib.hid h
  have hkn : k < n := by rw [h.n_eq]; unfold wn; omega
  have c1 := h.word hkn
  have a1 : (x : Int) / 64 = (k : Int) := by omega
  have a2 : (y : Int) / 64 = (k : Int) := by omega
  have a3 : bits BinOp.and IntKind.u64 (x : Int) 63 = (s : Int) := by rw [and63 x (by omega)]; omega
  have a4 : bits BinOp.and IntKind.u64 (y : Int) 63 = (e : Int) := by rw [and63 y (by omega)]; omega
  have hxy : x < y := by omega
  have HZ := Lib.hid (andBoth_I (f k) (h.small k) he (show s < 64 by omega))
  have hz : f k &&& mBoth e s < 18446744073709551616 := Nat.lt_of_le_of_lt Nat.and_le_left (h.small k)
  have HO := Lib.hid (fun w => ones_any (f k &&& mBoth e s) w hz)
  have hq := pc_le64 64 (f k &&& mBoth e s)
  generalize f k &&& mBoth e s = z at *
  generalize pc 64 z = q at *
  clear h hx hy hz
  by_cases hc : len < to
  · obtain rfl : y = len := by omega
    clear hto
    go_enter Try.func63, Try.ntmps63
    go_wp2_with fail
    refine (panicIfNull_any _ _).mono ?_; rintro e' w' ⟨rfl, rfl⟩
    go_wp2_with fail
    rw [HZ.out]
    refine (HO.out _).mono ?_; rintro e' w' ⟨rfl, rfl⟩
    go_wp2_with fail
    go_ret
    exact ⟨rfl, rfl⟩
  · obtain rfl : y = to := by omega
    clear hto
    go_enter Try.func63, Try.ntmps63
    go_wp2_with fail
    refine (panicIfNull_any _ _).mono ?_; rintro e' w' ⟨rfl, rfl⟩
    go_wp2_with fail
    rw [HZ.out]
    refine (HO.out _).mono ?_; rintro e' w' ⟨rfl, rfl⟩
    go_wp2_with fail
    go_ret
    exact ⟨rfl, rfl⟩

set_option maxRecDepth 100000 in
set_option maxHeartbeats 1000000 in
theorem ones_many_00 {w : World} {p b n c len : Nat} {f : Nat → Nat} (h : BSet w p b n c len f) (x y to k s m e : Nat) (hx : x = 64 * k + s) (hy : y = 64 * m + e) (hs : s < 64) (_he : e < 64) (hmid : m = k + 1) (hlast : e = 0) (hto : min to len = y) (hl : len ≤ 100000) (hto2 : to ≤ 100000) :
    Calls Try.prog 63 #[.pointer (some ⟨p, 0, none⟩), .int .u64 x, .int .u64 to] w fun e' w' => e' = .returned (.int .u64 (pc 64 (f k &&& mHigh s) : Nat)) ∧ w = w' := by
  have x0 := h.len_cell
  have x1 := h.set_cell
  have H := Lib.hid h
  have hkn : k < n := by rw [h.n_eq]; unfold wn; omega
  have c1 := h.word hkn
  have a1 : (x : Int) / 64 = (k : Int) := by omega
  have a2 : (y : Int) / 64 = (m : Int) := by omega
  have a3 : bits BinOp.and IntKind.u64 (x : Int) 63 = (s : Int) := by rw [and63 x (by omega)]; omega
  have a4 : bits BinOp.and IntKind.u64 (y : Int) 63 = (e : Int) := by rw [and63 y (by omega)]; omega
  have hxy : x < y := by omega
  have hkm : k < m := by omega
  have hmn : m ≤ n := by rw [h.n_eq]; unfold wn; omega
  have hn2 : n ≤ 20000 := by rw [h.n_eq]; unfold wn; omega
  have hnc := h.nc
  have HZ1 := Lib.hid (andHigh_I (f k) (h.small k) hs)
  have hz1 : f k &&& mHigh s < 18446744073709551616 := Nat.lt_of_le_of_lt Nat.and_le_left (h.small k)
  have HO1 := Lib.hid (ones_any (f k &&& mHigh s) w hz1)
  have hq1 := pc_le64 64 (f k &&& mHigh s)
  generalize f k &&& mHigh s = z1 at *
  generalize pc 64 z1 = q1 at *
  have hm2 : (m : Int) ≤ (k : Int) + 1 := by omega
  have hm3 : decide (k + 1 < m) = false := decide_eq_false (by omega)
  clear hx hy h hz1 hmid
  by_cases hc : len < to
  · obtain rfl : y = len := by omega
    clear hto
    go_enter Try.func63, Try.ntmps63
    go_wp2_with fail
    refine (panicIfNull_any _ _).mono ?_; rintro e' w' ⟨rfl, rfl⟩
    go_wp2_with fail
    rw [HZ1.out]
    refine HO1.out.mono ?_; rintro e' w' ⟨rfl, rfl⟩
    go_wp2_with fail
    go_ret
    exact ⟨rfl, rfl⟩
  · obtain rfl : y = to := by omega
    clear hto
    go_enter Try.func63, Try.ntmps63
    go_wp2_with fail
    refine (panicIfNull_any _ _).mono ?_; rintro e' w' ⟨rfl, rfl⟩
    go_wp2_with fail
    rw [HZ1.out]
    refine HO1.out.mono ?_; rintro e' w' ⟨rfl, rfl⟩
    go_wp2_with fail
    go_ret
    exact ⟨rfl, rfl⟩

set_option maxRecDepth 100000 in
set_option maxHeartbeats 1000000 in
theorem ones_many_01 {w : World} {p b n c len : Nat} {f : Nat → Nat} (h : BSet w p b n c len f) (x y to k s m e : Nat) (hx : x = 64 * k + s) (hy : y = 64 * m + e) (hs : s < 64) (he : e < 64) (hmid : m = k + 1) (hlast : 0 < e) (hto : min to len = y) (hl : len ≤ 100000) (hto2 : to ≤ 100000) :
    Calls Try.prog 63 #[.pointer (some ⟨p, 0, none⟩), .int .u64 x, .int .u64 to] w fun e' w' => e' = .returned (.int .u64 (pc 64 (f k &&& mHigh s) + pc 64 (f m &&& mLow e) : Nat)) ∧ w = w' := by
  have x0 := h.len_cell
  have x1 := h.set_cell
  have H := Lib.hid h
  have hkn : k < n := by rw [h.n_eq]; unfold wn; omega
  have c1 := h.word hkn
  have a1 : (x : Int) / 64 = (k : Int) := by omega
  have a2 : (y : Int) / 64 = (m : Int) := by omega
  have a3 : bits BinOp.and IntKind.u64 (x : Int) 63 = (s : Int) := by rw [and63 x (by omega)]; omega
  have a4 : bits BinOp.and IntKind.u64 (y : Int) 63 = (e : Int) := by rw [and63 y (by omega)]; omega
  have hxy : x < y := by omega
  have hkm : k < m := by omega
  have hmn : m ≤ n := by rw [h.n_eq]; unfold wn; omega
  have hn2 : n ≤ 20000 := by rw [h.n_eq]; unfold wn; omega
  have hnc := h.nc
  have HZ1 := Lib.hid (andHigh_I (f k) (h.small k) hs)
  have hz1 : f k &&& mHigh s < 18446744073709551616 := Nat.lt_of_le_of_lt Nat.and_le_left (h.small k)
  have HO1 := Lib.hid (ones_any (f k &&& mHigh s) w hz1)
  have hq1 := pc_le64 64 (f k &&& mHigh s)
  generalize f k &&& mHigh s = z1 at *
  generalize pc 64 z1 = q1 at *
  have hm2 : (m : Int) ≤ (k : Int) + 1 := by omega
  have hm3 : decide (k + 1 < m) = false := decide_eq_false (by omega)
  have hmn2 : m < n := by have := h.n_eq; unfold wn at this; omega
  have c2 := h.word hmn2
  have HZ2 := Lib.hid (andLow_I (f m) (h.small m) he)
  have hz2 : f m &&& mLow e < 18446744073709551616 := Nat.lt_of_le_of_lt Nat.and_le_left (h.small m)
  have HO2 := Lib.hid (ones_any (f m &&& mLow e) w hz2)
  have hq3 := pc_le64 64 (f m &&& mLow e)
  generalize f m &&& mLow e = z2 at *
  generalize pc 64 z2 = q3 at *
  clear hz2
  clear hx hy h hz1 hmid
  by_cases hc : len < to
  · obtain rfl : y = len := by omega
    clear hto
    go_enter Try.func63, Try.ntmps63
    go_wp2_with fail
    refine (panicIfNull_any _ _).mono ?_; rintro e' w' ⟨rfl, rfl⟩
    go_wp2_with fail
    rw [HZ1.out]
    refine HO1.out.mono ?_; rintro e' w' ⟨rfl, rfl⟩
    go_wp2_with fail
    rw [HZ2.out]
    refine HO2.out.mono ?_; rintro e' w' ⟨rfl, rfl⟩
    go_wp2_with fail
    go_ret
    exact ⟨rfl, rfl⟩
  · obtain rfl : y = to := by omega
    clear hto
    go_enter Try.func63, Try.ntmps63
    go_wp2_with fail
    refine (panicIfNull_any _ _).mono ?_; rintro e' w' ⟨rfl, rfl⟩
    go_wp2_with fail
    rw [HZ1.out]
    refine HO1.out.mono ?_; rintro e' w' ⟨rfl, rfl⟩
    go_wp2_with fail
    rw [HZ2.out]
    refine HO2.out.mono ?_; rintro e' w' ⟨rfl, rfl⟩
    go_wp2_with fail
    go_ret
    exact ⟨rfl, rfl⟩

set_option maxRecDepth 100000 in
set_option maxHeartbeats 1000000 in
theorem ones_many_10 {w : World} {p b n c len : Nat} {f : Nat → Nat} (h : BSet w p b n c len f) (x y to k s m e : Nat) (hx : x = 64 * k + s) (hy : y = 64 * m + e) (hs : s < 64) (_he : e < 64) (hmid : k + 1 < m) (hlast : e = 0) (hto : min to len = y) (hl : len ≤ 100000) (hto2 : to ≤ 100000) :
    Calls Try.prog 63 #[.pointer (some ⟨p, 0, none⟩), .int .u64 x, .int .u64 to] w fun e' w' => e' = .returned (.int .u64 (pc 64 (f k &&& mHigh s) + psum (fun i => f (k + 1 + i)) (m - (k + 1)) : Nat)) ∧ w = w' := by
  have x0 := h.len_cell
  have x1 := h.set_cell
  have H := Lib.hid h
  have hkn : k < n := by rw [h.n_eq]; unfold wn; omega
  have c1 := h.word hkn
  have a1 : (x : Int) / 64 = (k : Int) := by omega
  have a2 : (y : Int) / 64 = (m : Int) := by omega
  have a3 : bits BinOp.and IntKind.u64 (x : Int) 63 = (s : Int) := by rw [and63 x (by omega)]; omega
  have a4 : bits BinOp.and IntKind.u64 (y : Int) 63 = (e : Int) := by rw [and63 y (by omega)]; omega
  have hxy : x < y := by omega
  have hkm : k < m := by omega
  have hmn : m ≤ n := by rw [h.n_eq]; unfold wn; omega
  have hn2 : n ≤ 20000 := by rw [h.n_eq]; unfold wn; omega
  have hnc := h.nc
  have HZ1 := Lib.hid (andHigh_I (f k) (h.small k) hs)
  have hz1 : f k &&& mHigh s < 18446744073709551616 := Nat.lt_of_le_of_lt Nat.and_le_left (h.small k)
  have HO1 := Lib.hid (ones_any (f k &&& mHigh s) w hz1)
  have hq1 := pc_le64 64 (f k &&& mHigh s)
  generalize f k &&& mHigh s = z1 at *
  generalize pc 64 z1 = q1 at *
  have HP := Lib.hid (fun cc => popcnt_any (w := w) (b := b) (o := k + 1) (n := m - (k + 1)) (c := cc) (g := fun i => f (k + 1 + i)) (fun i hi => h.word (by omega)) (fun i => h.small _) (by omega))
  have hq2 := psum_le (fun i => f (k + 1 + i)) (m - (k + 1))
  generalize psum (fun i => f (k + 1 + i)) (m - (k + 1)) = q2 at *
  have hm2 : (m : Int) > (k : Int) + 1 := by omega
  clear hx hy h hz1 
  by_cases hc : len < to
  · obtain rfl : y = len := by omega
    clear hto
    go_enter Try.func63, Try.ntmps63
    go_wp2_with fail
    refine (panicIfNull_any _ _).mono ?_; rintro e' w' ⟨rfl, rfl⟩
    go_wp2_with fail
    rw [HZ1.out]
    refine HO1.out.mono ?_; rintro e' w' ⟨rfl, rfl⟩
    go_wp2_with fail
    refine (HP.out _).mono ?_; rintro e' w' ⟨rfl, rfl⟩
    go_wp2_with fail
    go_ret
    exact ⟨rfl, rfl⟩
  · obtain rfl : y = to := by omega
    clear hto
    go_enter Try.func63, Try.ntmps63
    go_wp2_with fail
    refine (panicIfNull_any _ _).mono ?_; rintro e' w' ⟨rfl, rfl⟩
    go_wp2_with fail
    rw [HZ1.out]
    refine HO1.out.mono ?_; rintro e' w' ⟨rfl, rfl⟩
    go_wp2_with fail
    refine (HP.out _).mono ?_; rintro e' w' ⟨rfl, rfl⟩
    go_wp2_with fail
    go_ret
    exact ⟨rfl, rfl⟩

set_option maxRecDepth 100000 in
set_option maxHeartbeats 1000000 in
theorem ones_many_11 {w : World} {p b n c len : Nat} {f : Nat → Nat} (h : BSet w p b n c len f) (x y to k s m e : Nat) (hx : x = 64 * k + s) (hy : y = 64 * m + e) (hs : s < 64) (he : e < 64) (hmid : k + 1 < m) (hlast : 0 < e) (hto : min to len = y) (hl : len ≤ 100000) (hto2 : to ≤ 100000) :
    Calls Try.prog 63 #[.pointer (some ⟨p, 0, none⟩), .int .u64 x, .int .u64 to] w fun e' w' => e' = .returned (.int .u64 (pc 64 (f k &&& mHigh s) + psum (fun i => f (k + 1 + i)) (m - (k + 1)) + pc 64 (f m &&& mLow e) : Nat)) ∧ w = w' := by
  have x0 := h.len_cell
  have x1 := h.set_cell
  have H := Lib.hid h
  have hkn : k < n := by rw [h.n_eq]; unfold wn; omega
  have c1 := h.word hkn
  have a1 : (x : Int) / 64 = (k : Int) := by omega
  have a2 : (y : Int) / 64 = (m : Int) := by omega
  have a3 : bits BinOp.and IntKind.u64 (x : Int) 63 = (s : Int) := by rw [and63 x (by omega)]; omega
  have a4 : bits BinOp.and IntKind.u64 (y : Int) 63 = (e : Int) := by rw [and63 y (by omega)]; omega
  have hxy : x < y := by omega
  have hkm : k < m := by omega
  have hmn : m ≤ n := by rw [h.n_eq]; unfold wn; omega
  have hn2 : n ≤ 20000 := by rw [h.n_eq]; unfold wn; omega
  have hnc := h.nc
  have HZ1 := Lib.hid (andHigh_I (f k) (h.small k) hs)
  have hz1 : f k &&& mHigh s < 18446744073709551616 := Nat.lt_of_le_of_lt Nat.and_le_left (h.small k)
  have HO1 := Lib.hid (ones_any (f k &&& mHigh s) w hz1)
  have hq1 := pc_le64 64 (f k &&& mHigh s)
  generalize f k &&& mHigh s = z1 at *
  generalize pc 64 z1 = q1 at *
  have HP := Lib.hid (fun cc => popcnt_any (w := w) (b := b) (o := k + 1) (n := m - (k + 1)) (c := cc) (g := fun i => f (k + 1 + i)) (fun i hi => h.word (by omega)) (fun i => h.small _) (by omega))
  have hq2 := psum_le (fun i => f (k + 1 + i)) (m - (k + 1))
  generalize psum (fun i => f (k + 1 + i)) (m - (k + 1)) = q2 at *
  have hm2 : (m : Int) > (k : Int) + 1 := by omega
  have hmn2 : m < n := by have := h.n_eq; unfold wn at this; omega
  have c2 := h.word hmn2
  have HZ2 := Lib.hid (andLow_I (f m) (h.small m) he)
  have hz2 : f m &&& mLow e < 18446744073709551616 := Nat.lt_of_le_of_lt Nat.and_le_left (h.small m)
  have HO2 := Lib.hid (ones_any (f m &&& mLow e) w hz2)
  have hq3 := pc_le64 64 (f m &&& mLow e)
  generalize f m &&& mLow e = z2 at *
  generalize pc 64 z2 = q3 at *
  clear hz2
  clear hx hy h hz1 
  by_cases hc : len < to
  · obtain rfl : y = len := by omega
    clear hto
    go_enter Try.func63, Try.ntmps63
    go_wp2_with fail
    refine (panicIfNull_any _ _).mono ?_; rintro e' w' ⟨rfl, rfl⟩
    go_wp2_with fail
    rw [HZ1.out]
    refine HO1.out.mono ?_; rintro e' w' ⟨rfl, rfl⟩
    go_wp2_with fail
    refine (HP.out _).mono ?_; rintro e' w' ⟨rfl, rfl⟩
    go_wp2_with fail
    rw [HZ2.out]
    refine HO2.out.mono ?_; rintro e' w' ⟨rfl, rfl⟩
    go_wp2_with fail
    go_ret
    exact ⟨rfl, rfl⟩
  · obtain rfl : y = to := by omega
    clear hto
    go_enter Try.func63, Try.ntmps63
    go_wp2_with fail
    refine (panicIfNull_any _ _).mono ?_; rintro e' w' ⟨rfl, rfl⟩
    go_wp2_with fail
    rw [HZ1.out]
    refine HO1.out.mono ?_; rintro e' w' ⟨rfl, rfl⟩
    go_wp2_with fail
    refine (HP.out _).mono ?_; rintro e' w' ⟨rfl, rfl⟩
    go_wp2_with fail
    rw [HZ2.out]
    refine HO2.out.mono ?_; rintro e' w' ⟨rfl, rfl⟩
    go_wp2_with fail
    go_ret
    exact ⟨rfl, rfl⟩

end Go.Proofs.Ytpmnpaannbhoeaa
