/- Words shifted to the left, as plain numbers. -/
import Derived.Test.YtpmnpaannbhoeaaBsQ
namespace Go.Proofs.Ytpmnpaannbhoeaa
open Go.RowKit Pop

/-- The words up to idx, and nothing behind. -/
def fz (f : Nat → Nat) (idx : Nat) : Nat → Nat := fun q => if q ≤ idx then f q else 0
def shw (f : Nat → Nat) (sh q : Nat) : Nat := if sh = 0 then f q else (f q * 2 ^ sh % 18446744073709551616) ||| (if q = 0 then 0 else f (q - 1) / 2 ^ (64 - sh))
def SL (f : Nat → Nat) (idx sh pg : Nat) : Nat → Nat := fun q => if q < pg then 0 else shw (fz f idx) sh (q - pg)
theorem fz_small {f : Nat → Nat} (h : ∀ i, f i < 18446744073709551616) (idx : Nat) : ∀ i, fz f idx i < 18446744073709551616 := by
  intro i; unfold fz; split
  · exact h i
  · decide
theorem shr_lt {x : Nat} (h : x < 18446744073709551616) (k : Nat) : x / 2 ^ k < 18446744073709551616 := Nat.lt_of_le_of_lt (Nat.div_le_self _ _) h
theorem shw_small {f : Nat → Nat} (h : ∀ i, f i < 18446744073709551616) (sh q : Nat) : shw f sh q < 18446744073709551616 := by
  unfold shw
  split
  · exact h q
  · refine or64 (Nat.mod_lt _ (by decide)) ?_
    split
    · decide
    · exact shr_lt (h _) _
theorem SL_small {f : Nat → Nat} (h : ∀ i, f i < 18446744073709551616) (idx sh pg : Nat) : ∀ q, SL f idx sh pg q < 18446744073709551616 := by
  intro q; unfold SL; split
  · decide
  · exact shw_small (fz_small h idx) _ _
theorem shlm_tb (x : Nat) {s t : Nat} (ht : t < 64) : (x * 2 ^ s % 18446744073709551616).testBit t = (decide (s ≤ t) && x.testBit (t - s)) := by
  rw [show (18446744073709551616 : Nat) = 2 ^ 64 from rfl, Nat.testBit_mod_two_pow, decide_eq_true ht, Bool.true_and, show x * 2 ^ s = x <<< s by rw [Nat.shiftLeft_eq], Nat.testBit_shiftLeft]
theorem shrm_tb (x s t : Nat) : (x / 2 ^ s).testBit t = x.testBit (s + t) := by
  rw [← Nat.shiftRight_eq_div_pow, Nat.testBit_shiftRight]
theorem high_tb {x : Nat} (h : x < 18446744073709551616) {t : Nat} (ht : 64 ≤ t) : x.testBit t = false :=
  Nat.testBit_lt_two_pow (Nat.lt_of_lt_of_le h (Nat.pow_le_pow_right (n := 2) (i := 64) (by decide) ht))
theorem shw_tb {f : Nat → Nat} (h : ∀ i, f i < 18446744073709551616) {sh q t : Nat} (hs : sh < 64) (ht : t < 64) : (shw f sh q).testBit t = (decide (sh ≤ 64 * q + t) && bit f (64 * q + t - sh)) := by
  unfold shw bit
  by_cases h0 : sh = 0
  · rw [if_pos h0, h0, decide_eq_true (Nat.zero_le _), show (64 * q + t - 0) / 64 = q by omega, show (64 * q + t - 0) % 64 = t by omega, Bool.true_and]
  · rw [if_neg h0, Nat.testBit_or, shlm_tb _ ht]
    by_cases h1 : sh ≤ t
    · rw [decide_eq_true h1, decide_eq_true (show sh ≤ 64 * q + t by omega), show (64 * q + t - sh) / 64 = q by omega, show (64 * q + t - sh) % 64 = t - sh by omega]
      have : (if q = 0 then 0 else f (q - 1) / 2 ^ (64 - sh)).testBit t = false := by
        split
        · exact Nat.zero_testBit _
        · rw [shrm_tb]; exact high_tb (h _) (by omega)
      rw [this]; simp
    · rw [decide_eq_false h1]
      by_cases h2 : q = 0
      · rw [if_pos h2, Nat.zero_testBit, decide_eq_false (show ¬ sh ≤ 64 * q + t by omega)]; simp
      · rw [if_neg h2, shrm_tb, decide_eq_true (show sh ≤ 64 * q + t by omega), show (64 * q + t - sh) / 64 = q - 1 by omega, show (64 * q + t - sh) % 64 = 64 - sh + t by omega]; simp
theorem SL_bit {f : Nat → Nat} (h : ∀ i, f i < 18446744073709551616) {sh : Nat} (hs : sh < 64) (idx pg j : Nat) : bit (SL f idx sh pg) j = (decide (64 * pg + sh ≤ j) && bit (fz f idx) (j - (64 * pg + sh))) := by
  have e : bit (SL f idx sh pg) j = (SL f idx sh pg (j / 64)).testBit (j % 64) := rfl
  rw [e]
  unfold SL
  by_cases h1 : j / 64 < pg
  · rw [if_pos h1, Nat.zero_testBit, decide_eq_false (by omega), Bool.false_and]
  · rw [if_neg h1, shw_tb (fz_small h idx) hs (Nat.mod_lt _ (by decide)), show 64 * (j / 64 - pg) + j % 64 - sh = j - (64 * pg + sh) by omega]
    congr 1
    exact decide_eq_decide.2 (by omega)
theorem wrap_shl (x s : Nat) : IntKind.u64.wrap ((x : Int) * 2 ^ s) = ((x * 2 ^ s % 18446744073709551616 : Nat) : Int) := by
  rw [show (x : Int) * 2 ^ s = ((x * 2 ^ s : Nat) : Int) from by rw [Int.natCast_mul, Int.natCast_pow]; rfl, IntKind.wrap_u64, Int.natCast_emod]; rfl
theorem shr_nat (x s : Nat) : (x : Int) / 2 ^ s = ((x / 2 ^ s : Nat) : Int) := by
  rw [Int.natCast_ediv, Int.natCast_pow]; rfl
/-- What is behind the highest bit. -/
theorem Top.zero {f : Nat → Nat} {n t : Nat} (h : Top f n t) (hf : ∀ i, f i < 18446744073709551616) : ∀ i, t / 64 < i → i < n → f i = 0 := by
  intro i h1 h2
  refine word_eq (hf i) (by decide) fun j hj => ?_
  have := h.2.2 (64 * i + j) (by omega) (by omega)
  unfold bit at this
  rw [show (64 * i + j) / 64 = i by omega, show (64 * i + j) % 64 = j by omega] at this
  rw [this, Nat.zero_testBit]
theorem Top.le {f : Nat → Nat} {n t : Nat} (h : Top f n t) (hf : ∀ i, f i < 18446744073709551616) : f (t / 64) < 2 ^ (t % 64 + 1) := by
  rcases Nat.lt_or_ge (f (t / 64)) (2 ^ (t % 64 + 1)) with h1 | h1
  · exact h1
  · exfalso
    obtain ⟨i, hi, hb⟩ := Nat.exists_ge_and_testBit_of_ge_two_pow h1
    have h64 : i < 64 := by
      rcases Nat.lt_or_ge i 64 with h2 | h2
      · exact h2
      · rw [high_tb (hf _) h2] at hb; cases hb
    have := h.2.2 (64 * (t / 64) + i) (by omega) (by have := h.1; omega)
    unfold bit at this
    rw [show (64 * (t / 64) + i) / 64 = t / 64 by omega, show (64 * (t / 64) + i) % 64 = i by omega, hb] at this
    cases this
theorem Top.low {f : Nat → Nat} {n t sh : Nat} (h : Top f n t) (hf : ∀ i, f i < 18446744073709551616) (hs : t % 64 + sh < 64) : f (t / 64) / 2 ^ (64 - sh) = 0 :=
  Nat.div_eq_of_lt (Nat.lt_of_lt_of_le (h.le hf) (Nat.pow_le_pow_right (by decide) (by omega)))
theorem fz_bit {f : Nat → Nat} {n t : Nat} (h : Top f n t) (j : Nat) (hj : j < 64 * n) : bit (fz f (t / 64)) j = bit f j := by
  have e : bit (fz f (t / 64)) j = (if j / 64 ≤ t / 64 then f (j / 64) else 0).testBit (j % 64) := rfl
  rw [e]
  by_cases h1 : j / 64 ≤ t / 64
  · rw [if_pos h1]; rfl
  · rw [if_neg h1, Nat.zero_testBit, h.2.2 j (by omega) hj]
/-- The rows on the way. -/
def HL (f h0 : Nat → Nat) (N idx sh pg k : Nat) : Nat → Nat := fun q => if q < N ∧ k + pg ≤ q then SL f idx sh pg q else h0 q
def ZL (h : Nat → Nat) (m : Nat) : Nat → Nat := fun q => if q < m then 0 else h q
theorem ZL_zero (h : Nat → Nat) : ZL h 0 = h := by funext q; unfold ZL; rw [if_neg (by omega)]
theorem ZL_next (h : Nat → Nat) (m : Nat) : upd (ZL h m) m 0 = ZL h (m + 1) := by
  funext q
  unfold upd ZL
  by_cases h1 : q = m
  · rw [if_pos h1, if_pos (by omega)]
  · rw [if_neg h1]
    by_cases h2 : q < m
    · rw [if_pos h2, if_pos (by omega)]
    · rw [if_neg h2, if_neg (by omega)]
theorem HL_next (f h0 : Nat → Nat) (N idx sh pg k : Nat) (hN : k + pg < N) : upd (HL f h0 N idx sh pg (k + 1)) (k + pg) (shw (fz f idx) sh k) = HL f h0 N idx sh pg k := by
  funext q
  unfold upd HL
  by_cases h1 : q = k + pg
  · rw [if_pos h1, if_pos (by omega)]
    unfold SL
    rw [if_neg (by omega), h1, show k + pg - pg = k by omega]
  · rw [if_neg h1]
    by_cases h2 : q < N ∧ k + 1 + pg ≤ q
    · rw [if_pos h2, if_pos (by omega)]
    · rw [if_neg h2, if_neg (by omega)]
theorem HL_low (f h0 : Nat → Nat) (N idx sh pg k : Nat) {q : Nat} (h : q < k + pg) : HL f h0 N idx sh pg k q = h0 q := by
  unfold HL
  rw [if_neg (by omega)]
theorem SL_over {f : Nat → Nat} {idx sh pg q : Nat} (hs : sh ≠ 0) (h : q = idx + pg + 1) : SL f idx sh pg q = f idx / 2 ^ (64 - sh) := by
  unfold SL shw fz
  rw [if_neg (by omega), if_neg hs, show q - pg = idx + 1 by omega, if_neg (by omega), Nat.zero_mul, Nat.zero_mod, if_neg (by omega), if_pos (by omega), Nat.zero_or, show idx + 1 - 1 = idx by omega]
theorem SL_far {f : Nat → Nat} {idx sh pg q : Nat} (h : idx + pg + 1 < q ∨ (sh = 0 ∧ idx + pg < q)) : SL f idx sh pg q = 0 := by
  unfold SL shw fz
  rw [if_neg (by omega)]
  by_cases hs : sh = 0
  · rw [if_pos hs, if_neg (by omega)]
  · rw [if_neg hs, if_neg (by omega), if_neg (by omega), if_neg (by omega), Nat.zero_mul, Nat.zero_mod, Nat.zero_div, Nat.zero_or]
/-- The row ahead of the loop. -/
theorem HL_start_over {f h0 : Nat → Nat} {N idx sh pg : Nat} (hs : sh ≠ 0) (hN : idx + pg + 1 < N) (hz : ∀ q, idx + pg + 1 < q → q < N → h0 q = 0) :
    upd h0 (idx + pg + 1) (f idx / 2 ^ (64 - sh)) = HL f h0 N idx sh pg (idx + 1) := by
  funext q
  unfold upd HL
  by_cases h1 : q = idx + pg + 1
  · rw [if_pos h1, if_pos (by omega), SL_over hs h1]
  · rw [if_neg h1]
    by_cases h2 : q < N ∧ idx + 1 + pg ≤ q
    · rw [if_pos h2, SL_far (Or.inl (by omega)), hz q (by omega) h2.1]
    · rw [if_neg h2]
theorem HL_start {f h0 : Nat → Nat} {N idx sh pg : Nat} (hs : sh ≠ 0) (hlow : f idx / 2 ^ (64 - sh) = 0) (hz : ∀ q, idx + pg < q → q < N → h0 q = 0) :
    h0 = HL f h0 N idx sh pg (idx + 1) := by
  funext q
  unfold HL
  by_cases h2 : q < N ∧ idx + 1 + pg ≤ q
  · rw [if_pos h2, hz q (by omega) h2.1]
    by_cases h3 : q = idx + pg + 1
    · rw [SL_over hs h3, hlow]
    · rw [SL_far (Or.inl (by omega))]
  · rw [if_neg h2]
theorem copied {f h0 : Nat → Nat} {N idx pg q : Nat} (hz : ∀ q, idx + pg < q → q < N → h0 q = 0) (hq : q < N) (hp : pg ≤ q) :
    put h0 pg ((List.range (idx + 1)).map fun j => f (0 + j)) q = SL f idx 0 pg q := by
  unfold put
  by_cases h1 : q < pg + (idx + 1)
  · rw [if_pos ⟨hp, by simpa using h1⟩]
    unfold SL shw fz
    rw [if_neg (by omega), if_pos rfl, if_pos (by omega)]
    have : q - pg < idx + 1 := by omega
    simp [List.getD, this]
  · rw [if_neg (by simp; omega), SL_far (Or.inr ⟨rfl, by omega⟩), hz q (by omega) hq]
theorem ZL_is {f h : Nat → Nat} {N idx sh pg : Nat} (hh : ∀ q, q < N → pg ≤ q → h q = SL f idx sh pg q) : ∀ q, q < N → ZL h pg q = SL f idx sh pg q := by
  intro q hq
  unfold ZL
  by_cases h1 : q < pg
  · rw [if_pos h1]; unfold SL; rw [if_pos h1]
  · rw [if_neg h1, hh q hq (by omega)]
theorem HL_is {f h0 : Nat → Nat} {N idx sh pg : Nat} : ∀ q, q < N → pg ≤ q → HL f h0 N idx sh pg 0 q = SL f idx sh pg q := by
  intro q h1 h2
  unfold HL
  rw [if_pos (by omega)]
theorem small_HL {f h0 : Nat → Nat} (h : ∀ i, f i < 18446744073709551616) (h1 : ∀ i, h0 i < 18446744073709551616) (N idx sh pg k : Nat) : ∀ i, HL f h0 N idx sh pg k i < 18446744073709551616 := by
  intro i; unfold HL; split
  · exact SL_small h _ _ _ i
  · exact h1 i
theorem small_ZL {h : Nat → Nat} (h1 : ∀ i, h i < 18446744073709551616) (m : Nat) : ∀ i, ZL h m i < 18446744073709551616 := by
  intro i; unfold ZL; split
  · decide
  · exact h1 i
theorem small_put {h : Nat → Nat} {f : Nat → Nat} (h1 : ∀ i, h i < 18446744073709551616) (h2 : ∀ i, f i < 18446744073709551616) (o m : Nat) : ∀ i, put h o ((List.range m).map fun j => f (0 + j)) i < 18446744073709551616 := by
  intro i; unfold put; split
  · rename_i hi
    simp at hi
    have : i - o < m := by omega
    simp [List.getD, this]
    exact h2 _
  · exact h1 i
/-- The bits of the whole. -/
theorem shifted {f g : Nat → Nat} {n N len t d : Nat} (hf : ∀ i, f i < 18446744073709551616) (ht : Top f n t) (hlen : ∀ j, len ≤ j → j < 64 * n → bit f j = false) (hl : len ≤ 64 * n) (hg : ∀ q, q < N → g q = SL f (t / 64) (d % 64) (d / 64) q) {j : Nat} (hj : j < 64 * N) :
    bit g j = (decide (d ≤ j) && (decide (j - d < len) && bit f (j - d))) := by
  have e : bit g j = bit (SL f (t / 64) (d % 64) (d / 64)) j := by
    unfold bit; rw [hg _ (by omega)]
  rw [e, SL_bit hf (Nat.mod_lt _ (by decide)), show 64 * (d / 64) + d % 64 = d by omega]
  congr 1
  by_cases h1 : j - d < 64 * n
  · rw [fz_bit ht _ h1]
    by_cases h2 : j - d < len
    · rw [decide_eq_true h2, Bool.true_and]
    · rw [decide_eq_false h2, Bool.false_and]; exact hlen _ (by omega) h1
  · rw [decide_eq_false (by omega), Bool.false_and]
    have : bit (fz f (t / 64)) (j - d) = (if (j - d) / 64 ≤ t / 64 then f ((j - d) / 64) else 0).testBit ((j - d) % 64) := rfl
    rw [this, if_neg (by have := ht.1; omega), Nat.zero_testBit]
end Go.Proofs.Ytpmnpaannbhoeaa
