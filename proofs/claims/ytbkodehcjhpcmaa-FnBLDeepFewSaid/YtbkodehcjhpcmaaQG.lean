/- How many bits of a set, none, equality and containment of equal sets. -/
import Derived.Test.YtbkodehcjhpcmaaQF
namespace Go.Proofs.Ytbkodehcjhpcmaa.Q
open Go.RowKit Pop

/-- How many of the first n. -/
def cd (S : Nat → Bool) : Nat → Nat
  | 0 => 0
  | n + 1 => cd S n + (S n).toNat
theorem cd_congr {S T : Nat → Bool} : ∀ n, (∀ j, j < n → S j = T j) → cd S n = cd T n
  | 0, _ => rfl
  | n + 1, h => by rw [cd, cd, cd_congr n fun j hj => h j (by omega), h n (by omega)]
theorem cd_more {S : Nat → Bool} {a b : Nat} (hab : a ≤ b) (h : ∀ j, a ≤ j → S j = false) : cd S b = cd S a := by
  obtain ⟨d, rfl⟩ : ∃ d, b = a + d := ⟨b - a, by omega⟩
  clear hab
  induction d with
  | zero => rfl
  | succ d ih => rw [← Nat.add_assoc, cd, ih, h (a + d) (by omega)]; rfl
theorem cd_mono {S : Nat → Bool} {a b : Nat} (hab : a ≤ b) : cd S a ≤ cd S b := by
  obtain ⟨d, rfl⟩ : ∃ d, b = a + d := ⟨b - a, by omega⟩
  clear hab
  induction d with
  | zero => exact Nat.le_refl _
  | succ d ih => rw [← Nat.add_assoc, cd]; omega
theorem cd_pos {S : Nat → Bool} {i n : Nat} (hi : i < n) (h : S i = true) : 0 < cd S n := by
  have := cd_mono (S := S) (a := i + 1) (b := n) hi
  rw [cd, h] at this
  simp at this
  omega
theorem cd_add (S : Nat → Bool) (a : Nat) : ∀ k, cd S (a + k) = cd S a + cd (fun j => S (a + j)) k
  | 0 => rfl
  | k + 1 => by rw [← Nat.add_assoc, cd, cd_add S a k, cd]; omega
theorem cd_le (S : Nat → Bool) : ∀ n, cd S n ≤ n
  | 0 => Nat.le_refl _
  | n + 1 => by rw [cd]; have := cd_le S n; cases S n <;> simp <;> omega
theorem pc_next (k : Nat) : ∀ n, pc (k + 1) n = pc k n + n / 2 ^ k % 2 := by
  induction k with
  | zero => intro n; simp [pc, bl]
  | succ k ih =>
    intro n
    have e1 : pc (k + 1 + 1) n = n % 2 + pc (k + 1) (n / 2) := by simp [pc, bl]
    have e2 : pc (k + 1) n = n % 2 + pc k (n / 2) := by simp [pc, bl]
    rw [e1, ih, e2, Nat.pow_succ, Nat.mul_comm, Nat.div_div_eq_div_mul]
    omega
theorem pc_cd (x : Nat) : ∀ k, pc k x = cd x.testBit k
  | 0 => rfl
  | k + 1 => by
    rw [pc_next, cd, pc_cd x k, Nat.testBit_eq_decide_div_mod_eq]
    rcases Nat.mod_two_eq_zero_or_one (x / 2 ^ k) with h | h <;> rw [h] <;> rfl
theorem psum_cd (f : Nat → Nat) : ∀ n, psum f n = cd (bit f) (64 * n)
  | 0 => rfl
  | n + 1 => by
    rw [psum, psum_cd f n, pc_cd, show 64 * (n + 1) = 64 * n + 64 by omega, cd_add]
    congr 1
    refine cd_congr 64 fun j hj => ?_
    show _ = (f ((64 * n + j) / 64)).testBit ((64 * n + j) % 64)
    rw [show (64 * n + j) / 64 = n by omega, show (64 * n + j) % 64 = j by omega]

/-- A word's bits are the set's. -/
theorem word_bit {w : World} {p b n c len : Nat} {f : Nat → Nat} {S : Nat → Bool} (h : BSet w p b n c len f) (hS : ∀ j, S j = (decide (j < len) && bit f j)) {k j : Nat} (hk : k < n) (hj : j < 64) : (f k).testBit j = S (64 * k + j) := by
  rw [hS]
  by_cases h1 : 64 * k + j < len
  · rw [decide_eq_true h1, Bool.true_and]
    unfold bit
    rw [show (64 * k + j) / 64 = k by omega, show (64 * k + j) % 64 = j by omega]
  · rw [decide_eq_false h1, Bool.false_and]
    exact h.clean' hj (by omega) (by omega)
theorem word_eq {x y : Nat} (hx : x < 18446744073709551616) (hy : y < 18446744073709551616) (h : ∀ j, j < 64 → x.testBit j = y.testBit j) : x = y := by
  refine Nat.eq_of_testBit_eq fun j => ?_
  by_cases hj : j < 64
  · exact h j hj
  · have e : ∀ z, z < 18446744073709551616 → z.testBit j = false := fun z hz =>
      Nat.testBit_lt_two_pow (Nat.lt_of_lt_of_le hz (show 18446744073709551616 ≤ 2 ^ j from Nat.pow_le_pow_right (n := 2) (i := 64) (by decide) (show 64 ≤ j by omega)))
    rw [e x hx, e y hy]
theorem psum_set {w : World} {p b n c len : Nat} {f : Nat → Nat} {S : Nat → Bool} (h : BSet w p b n c len f) (hS : ∀ j, S j = (decide (j < len) && bit f j)) : psum f n = cd S len := by
  have hn : len ≤ 64 * n := by rw [h.n_eq]; unfold wn; omega
  rw [psum_cd, ← cd_more hn (S := S) fun j hj => by rw [hS, decide_eq_false (by omega), Bool.false_and]]
  refine cd_congr _ fun j hj => ?_
  have := word_bit h hS (k := j / 64) (j := j % 64) (by omega) (Nat.mod_lt _ (by decide))
  rw [show 64 * (j / 64) + j % 64 = j by omega] at this
  exact this

set_option maxRecDepth 100000 in
set_option maxHeartbeats 400000 in
theorem count_any {w : World} {B p len : Nat} {S : Nat → Bool} (h : Bs w B p len S) :
    Calls Try.prog 31 #[.pointer (some ⟨p, 0, none⟩)] w fun e w' => e = .returned (.int .u64 (cd S len)) ∧ w = w' := by
  obtain ⟨b, n, c, f, h1, h2, h3, h4, h5, hS⟩ := h
  have hnl := fun w => run_neq_slice_nil (P := Try.prog) w 22 25 (some ⟨b, 0, none⟩) n c Try.underlying22
  have hnw : n ≤ 20000 := by rw [h1.n_eq]; unfold wn; omega
  have hp := popcnt_any (w := w) (b := b) (o := 0) (n := n) (c := c) (g := f) (fun i hi => by rw [Nat.zero_add]; exact h1.word hi) h1.small hnw
  rw [psum_set h1 hS] at hp
  have g1 := h1.set_cell
  clear h1 hS
  go_enter Try.func31, Try.ntmps31
  go_wp2_with fail
  refine hp.mono ?_; rintro e w' ⟨rfl, rfl⟩
  go_wp2_with fail
  go_ret
  exact ⟨rfl, rfl⟩

end Go.Proofs.Ytbkodehcjhpcmaa.Q
