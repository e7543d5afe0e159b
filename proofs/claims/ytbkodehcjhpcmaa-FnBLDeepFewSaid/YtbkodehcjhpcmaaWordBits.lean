/- Words of 64 bits as plain numbers: what Go's operations on them are. -/
import Derived.WalkKit
namespace Go.Proofs.Ytbkodehcjhpcmaa
open Go.RowKit

theorem wrapN64 (n : Nat) (h : n < 18446744073709551616) : IntKind.u64.wrap (n : Int) = n := by rw [IntKind.wrap_u64]; omega
theorem pow64 (k : Nat) (hk : k < 64) : 2 ^ k < 18446744073709551616 := Nat.lt_of_lt_of_le (Nat.pow_lt_pow_right (by decide) hk) (by decide)
theorem wpow64 (k : Nat) (hk : k < 64) : IntKind.u64.wrap (2 ^ k) = ((2 ^ k : Nat) : Int) := by
  rw [show ((2 : Int) ^ k) = ((2 ^ k : Nat) : Int) from (Int.natCast_pow 2 k).symm]; exact wrapN64 _ (pow64 k hk)
theorem tb_and (x k : Nat) (hx : x < 18446744073709551616) (hk : k < 64) : (bits BinOp.and IntKind.u64 (x : Int) (IntKind.u64.wrap (2 ^ k)) != 0) = x.testBit k := by
  rw [wpow64 k hk, u64_and_nat _ _ hx (pow64 k hk), nat_bit]
  have hp := Nat.two_pow_pos k
  have h2 : x / 2 ^ k % 2 = 0 ∨ x / 2 ^ k % 2 = 1 := by omega
  rw [Nat.testBit_eq_decide_div_mod_eq]
  rcases h2 with h | h <;> rw [h]
  · simp
  · rw [Nat.one_mul, decide_eq_true rfl]; exact bne_iff_ne.2 (by omega)
/-- A word with a bit set; cleared; turned. -/
def orBit (x k : Nat) : Nat := x ||| 2 ^ k
def offBit (x k : Nat) : Nat := x &&& (18446744073709551615 - 2 ^ k)
theorem or_bit (x k : Nat) (hx : x < 18446744073709551616) (hk : k < 64) : bits BinOp.or IntKind.u64 (x : Int) (IntKind.u64.wrap (2 ^ k)) = (orBit x k : Int) := by
  rw [wpow64 k hk, u64_or_nat _ _ hx (pow64 k hk)]; rfl
theorem off_bit (x k : Nat) (hx : x < 18446744073709551616) (hk : k < 64) : bits BinOp.andNot IntKind.u64 (x : Int) (IntKind.u64.wrap (2 ^ k)) = (offBit x k : Int) := by
  rw [wpow64 k hk, u64_andNot_nat _ _ hx (pow64 k hk)]; rfl
theorem orBit_lt (x k : Nat) (hx : x < 18446744073709551616) (hk : k < 64) : orBit x k < 18446744073709551616 := Nat.or_lt_two_pow (n := 64) hx (pow64 k hk)
theorem offBit_lt (x k : Nat) (hx : x < 18446744073709551616) : offBit x k < 18446744073709551616 := Nat.lt_of_le_of_lt Nat.and_le_left hx
theorem orBit_tb (x k i : Nat) : (orBit x k).testBit i = (x.testBit i || decide (k = i)) := by rw [orBit, Nat.testBit_or, Nat.testBit_two_pow]
theorem not_tb (m i : Nat) (hm : m < 18446744073709551616) (hi : i < 64) : (18446744073709551615 - m).testBit i = !m.testBit i := by
  have := Nat.testBit_two_pow_sub_succ (n := 64) (x := m) hm i
  rw [show 18446744073709551615 - m = 2 ^ 64 - (m + 1) by omega, this]
  simp [hi]
theorem not_tb_hi (m i : Nat) (hi : 64 ≤ i) : (18446744073709551615 - m).testBit i = false :=
  Nat.testBit_lt_two_pow (Nat.lt_of_lt_of_le (show 18446744073709551615 - m < 2 ^ 64 by omega) (Nat.pow_le_pow_right (by decide) hi))
theorem offBit_tb (x k i : Nat) (hx : x < 18446744073709551616) (hk : k < 64) : (offBit x k).testBit i = (x.testBit i && !decide (k = i)) := by
  rw [offBit, Nat.testBit_and]
  by_cases hi : i < 64
  · rw [not_tb _ _ (pow64 k hk) hi, Nat.testBit_two_pow]
  · have : x.testBit i = false := Nat.testBit_lt_two_pow (Nat.lt_of_lt_of_le hx (Nat.pow_le_pow_right (n := 2) (by decide) (show 64 ≤ i by omega)))
    simp [this]
/-- The bit i of some words. -/
def bit (f : Nat → Nat) (i : Nat) : Bool := (f (i / 64)).testBit (i % 64)
/-- The lowest bits of a word. -/
def low (x r : Nat) : Nat := x % 2 ^ r
theorem low_tb (x r j : Nat) : (low x r).testBit j = (decide (j < r) && x.testBit j) := by rw [low, Nat.testBit_mod_two_pow]
theorem low_lt (x r : Nat) (h : x < 18446744073709551616) : low x r < 18446744073709551616 := Nat.lt_of_le_of_lt (Nat.mod_le _ _) h
theorem all_div (r : Nat) (hr : r ≤ 64) : (18446744073709551615 : Int) / 2 ^ (64 - r) = ((2 ^ r - 1 : Nat) : Int) := by
  have h1 : 2 ^ r * 2 ^ (64 - r) = 18446744073709551616 := by rw [← Nat.pow_add, show r + (64 - r) = 64 by omega]
  have hp := Nat.two_pow_pos r
  have hq := Nat.two_pow_pos (64 - r)
  have h2 : 18446744073709551615 / 2 ^ (64 - r) = 2 ^ r - 1 := by
    apply Nat.div_eq_of_lt_le
    · have : (2 ^ r - 1) * 2 ^ (64 - r) = 18446744073709551616 - 2 ^ (64 - r) := by rw [Nat.sub_mul, h1, Nat.one_mul]
      omega
    · have : (2 ^ r - 1 + 1) * 2 ^ (64 - r) = 18446744073709551616 := by rw [Nat.sub_add_cancel hp, h1]
      omega
  rw [← h2]
  show _ = (((18446744073709551615 / 2 ^ (64 - r)) : Nat) : Int)
  rw [Int.natCast_ediv, Int.natCast_pow]; rfl
theorem and_low (x r : Nat) (hx : x < 18446744073709551616) (hr : r ≤ 64) : bits BinOp.and IntKind.u64 (x : Int) (18446744073709551615 / 2 ^ (64 - r)) = (low x r : Int) := by
  have hp : 2 ^ r ≤ 2 ^ 64 := Nat.pow_le_pow_right (by decide) hr
  have hp0 := Nat.two_pow_pos r
  rw [all_div r hr, u64_and_nat _ _ hx (by omega), Nat.and_two_pow_sub_one_eq_mod]
  rfl
end Go.Proofs.Ytbkodehcjhpcmaa
