/- Words shifted to the right, as plain numbers. -/
import Derived.Test.YtpmnpaannbhoeaaBsR0
namespace Go.Proofs.Ytpmnpaannbhoeaa
open Go.RowKit Pop

def shr1 (f : Nat → Nat) (sh q : Nat) : Nat := if sh = 0 then f q else f q / 2 ^ sh ||| (f (q + 1) * 2 ^ (64 - sh) % 18446744073709551616)
def SR (f : Nat → Nat) (idx sh pg : Nat) : Nat → Nat := fun q => shr1 (fz f idx) sh (q + pg)
theorem shr1_small {f : Nat → Nat} (h : ∀ i, f i < 18446744073709551616) (sh q : Nat) : shr1 f sh q < 18446744073709551616 := by
  unfold shr1
  split
  · exact h q
  · exact or64 (shr_lt (h _) _) (Nat.mod_lt _ (by decide))
theorem shr1_tb {f : Nat → Nat} (h : ∀ i, f i < 18446744073709551616) {sh q t : Nat} (hs : sh < 64) (ht : t < 64) : (shr1 f sh q).testBit t = bit f (64 * q + t + sh) := by
  unfold shr1 bit
  by_cases h0 : sh = 0
  · rw [if_pos h0, h0, show (64 * q + t + 0) / 64 = q by omega, show (64 * q + t + 0) % 64 = t by omega]
  · rw [if_neg h0, Nat.testBit_or, shrm_tb, shlm_tb _ ht]
    by_cases h1 : t + sh < 64
    · rw [show (64 * q + t + sh) / 64 = q by omega, show (64 * q + t + sh) % 64 = sh + t by omega, decide_eq_false (show ¬ 64 - sh ≤ t by omega)]; simp
    · rw [show (64 * q + t + sh) / 64 = q + 1 by omega, show (64 * q + t + sh) % 64 = t - (64 - sh) by omega, decide_eq_true (show 64 - sh ≤ t by omega), high_tb (h q) (show 64 ≤ sh + t by omega)]; simp
theorem SR_bit {f : Nat → Nat} (h : ∀ i, f i < 18446744073709551616) {sh : Nat} (hs : sh < 64) (idx pg j : Nat) : bit (SR f idx sh pg) j = bit (fz f idx) (j + (64 * pg + sh)) := by
  have e : bit (SR f idx sh pg) j = (shr1 (fz f idx) sh (j / 64 + pg)).testBit (j % 64) := rfl
  rw [e, shr1_tb (fz_small h idx) hs (Nat.mod_lt _ (by decide)), show 64 * (j / 64 + pg) + j % 64 + sh = j + (64 * pg + sh) by omega]
theorem SR_mid {f : Nat → Nat} {idx sh pg q : Nat} (hs : sh ≠ 0) (h : q + pg < idx) : SR f idx sh pg q = f (q + pg) / 2 ^ sh ||| (f (q + pg + 1) * 2 ^ (64 - sh) % 18446744073709551616) := by
  unfold SR shr1 fz
  rw [if_neg hs, if_pos (by omega), if_pos (by omega)]
theorem SR_last {f : Nat → Nat} {idx sh pg q : Nat} (hs : sh ≠ 0) (h : q + pg = idx) : SR f idx sh pg q = f idx / 2 ^ sh := by
  unfold SR shr1 fz
  rw [if_neg hs, if_pos (by omega), if_neg (by omega), Nat.zero_mul, Nat.zero_mod, Nat.or_zero, h]
theorem SR_far {f : Nat → Nat} {idx sh pg q : Nat} (h : idx < q + pg) : SR f idx sh pg q = 0 := by
  unfold SR shr1 fz
  by_cases hs : sh = 0
  · rw [if_pos hs, if_neg (by omega)]
  · rw [if_neg hs, if_neg (by omega), if_neg (by omega), Nat.zero_mul, Nat.zero_mod, Nat.zero_div, Nat.zero_or]
theorem SR_small {f : Nat → Nat} (h : ∀ i, f i < 18446744073709551616) (idx sh pg : Nat) : ∀ q, SR f idx sh pg q < 18446744073709551616 := fun _ => shr1_small (fz_small h idx) _ _
/-- The rows on the way. -/
def RH (f : Nat → Nat) (idx sh pg i : Nat) : Nat → Nat := fun q => if q < i then SR f idx sh pg q else f q
theorem RH_zero (f : Nat → Nat) (idx sh pg : Nat) : RH f idx sh pg 0 = f := by funext q; unfold RH; rw [if_neg (by omega)]
theorem RH_next (f : Nat → Nat) (idx sh pg i : Nat) : upd (RH f idx sh pg i) i (SR f idx sh pg i) = RH f idx sh pg (i + 1) := by
  funext q
  unfold upd RH
  by_cases h1 : q = i
  · rw [if_pos h1, if_pos (by omega), h1]
  · rw [if_neg h1]
    by_cases h2 : q < i
    · rw [if_pos h2, if_pos (by omega)]
    · rw [if_neg h2, if_neg (by omega)]
theorem RH_high (f : Nat → Nat) (idx sh pg i : Nat) {q : Nat} (h : i ≤ q) : RH f idx sh pg i q = f q := by unfold RH; rw [if_neg (by omega)]
theorem RH_same {f : Nat → Nat} {idx sh pg i k : Nat} (hk : k < i) (h : SR f idx sh pg k = 0) : upd (RH f idx sh pg i) k 0 = RH f idx sh pg i := by
  funext q
  unfold upd RH
  by_cases h1 : q = k
  · rw [if_pos h1, if_pos (by omega), h1, h]
  · rw [if_neg h1]
def ZR (h : Nat → Nat) (k m : Nat) : Nat → Nat := fun q => if k ≤ q ∧ q < m then 0 else h q
theorem ZR_zero (h : Nat → Nat) (k : Nat) : ZR h k k = h := by funext q; unfold ZR; rw [if_neg (by omega)]
theorem ZR_next (h : Nat → Nat) {k m : Nat} (hk : k ≤ m) : upd (ZR h k m) m 0 = ZR h k (m + 1) := by
  funext q
  unfold upd ZR
  by_cases h1 : q = m
  · rw [if_pos h1, if_pos (by omega)]
  · rw [if_neg h1]
    by_cases h2 : k ≤ q ∧ q < m
    · rw [if_pos h2, if_pos (by omega)]
    · rw [if_neg h2, if_neg (by omega)]
theorem small_RH {f : Nat → Nat} (h : ∀ i, f i < 18446744073709551616) (idx sh pg i : Nat) : ∀ q, RH f idx sh pg i q < 18446744073709551616 := by
  intro q; unfold RH; split
  · exact SR_small h _ _ _ q
  · exact h q
theorem small_ZR {h : Nat → Nat} (h1 : ∀ i, h i < 18446744073709551616) (k m : Nat) : ∀ i, ZR h k m i < 18446744073709551616 := by
  intro i; unfold ZR; split
  · decide
  · exact h1 i
theorem small_putR {h : Nat → Nat} {f : Nat → Nat} (h1 : ∀ i, h i < 18446744073709551616) (h2 : ∀ i, f i < 18446744073709551616) (o m x : Nat) : ∀ i, put h o ((List.range m).map fun j => f (x + j)) i < 18446744073709551616 := by
  intro i; unfold put; split
  · rename_i hi
    simp at hi
    have : i - o < m := by omega
    simp [List.getD, this]
    exact h2 _
  · exact h1 i
theorem copiedR {f : Nat → Nat} {idx pg k q : Nat} (hk : k + pg = idx) (hq : q ≤ k) : put f 0 ((List.range (k + 1)).map fun j => f (pg + j)) q = SR f idx 0 pg q := by
  unfold put SR shr1 fz
  have : q < k + 1 := by omega
  rw [if_pos ⟨Nat.zero_le _, by simpa using this⟩, if_pos rfl, if_pos (by omega)]
  simp [List.getD, this, Nat.add_comm]
theorem ZR_is {f h : Nat → Nat} {n idx sh pg k : Nat} (hk : k + pg = idx) (hh : ∀ q, q ≤ k → h q = SR f idx sh pg q) : ∀ q, q < n → ZR h (k + 1) n q = SR f idx sh pg q := by
  intro q hq
  unfold ZR
  by_cases h1 : k + 1 ≤ q
  · rw [if_pos ⟨h1, hq⟩, SR_far (by omega)]
  · rw [if_neg (by omega), hh q (by omega)]
theorem RH_is {f : Nat → Nat} {idx sh pg k : Nat} : ∀ q, q ≤ k → RH f idx sh pg (k + 1) q = SR f idx sh pg q := by
  intro q hq
  unfold RH
  rw [if_pos (by omega)]
theorem Top.lowR {f : Nat → Nat} {n t sh : Nat} (h : Top f n t) (hf : ∀ i, f i < 18446744073709551616) (hs : t % 64 < sh) : f (t / 64) / 2 ^ sh = 0 :=
  Nat.div_eq_of_lt (Nat.lt_of_lt_of_le (h.le hf) (Nat.pow_le_pow_right (by decide) (by omega)))
/-- The bits of the whole. -/
theorem shiftedR {f g : Nat → Nat} {n len t d : Nat} (hf : ∀ i, f i < 18446744073709551616) (ht : Top f n t) (hlen : ∀ j, len ≤ j → j < 64 * n → bit f j = false) (hl : len ≤ 64 * n) (hg : ∀ q, q < n → g q = SR f (t / 64) (d % 64) (d / 64) q) {j : Nat} (hj : j < 64 * n) :
    bit g j = (decide (j + d < len) && bit f (j + d)) := by
  have e : bit g j = bit (SR f (t / 64) (d % 64) (d / 64)) j := by
    unfold bit; rw [hg _ (by omega)]
  rw [e, SR_bit hf (Nat.mod_lt _ (by decide)), show 64 * (d / 64) + d % 64 = d by omega]
  by_cases h1 : j + d < 64 * n
  · rw [fz_bit ht _ h1]
    by_cases h2 : j + d < len
    · rw [decide_eq_true h2, Bool.true_and]
    · rw [decide_eq_false h2, Bool.false_and]; exact hlen _ (by omega) h1
  · rw [decide_eq_false (by omega), Bool.false_and]
    have : bit (fz f (t / 64)) (j + d) = (if (j + d) / 64 ≤ t / 64 then f ((j + d) / 64) else 0).testBit ((j + d) % 64) := rfl
    rw [this, if_neg (by have := ht.1; omega), Nat.zero_testBit]
end Go.Proofs.Ytpmnpaannbhoeaa
