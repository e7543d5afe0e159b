/- Plain numbers of 32 and 64 bits, bit by bit. -/
import Derived.Test.YtanloagjjbkfjaaPopPure
import Derived.Lib.Hide
namespace Go.Proofs.Ytanloagjjbkfjaa.BM
open Go.RowKit Pop

def lowN (n j : Nat) : Nat := n % 2 ^ j
def setN (b k : Nat) : Nat := b ||| 2 ^ k
def hiN (n j : Nat) : Nat := n / 2 ^ j * 2 ^ j
def bitB (b k : Nat) : Bool := decide (b / 2 ^ k % 2 = 1)

theorem pow64 (k : Nat) (hk : k < 64) : 2 ^ k < 18446744073709551616 := Nat.lt_of_lt_of_le (Nat.pow_lt_pow_right (by decide) hk) (by decide)
theorem pow32 (k : Nat) (hk : k < 32) : 2 ^ k < 4294967296 := Nat.lt_of_lt_of_le (Nat.pow_lt_pow_right (by decide) hk) (by decide)
theorem wrapN64 (n : Nat) (h : n < 18446744073709551616) : IntKind.u64.wrap (n : Int) = n := by rw [IntKind.wrap_u64]; omega
theorem wrapN32 (n : Nat) (h : n < 4294967296) : IntKind.u32.wrap (n : Int) = n := by rw [IntKind.wrap_u32]; omega
theorem wpow64 (k : Nat) (hk : k < 64) : IntKind.u64.wrap (2 ^ k) = ((2 ^ k : Nat) : Int) := by
  rw [show ((2 : Int) ^ k) = ((2 ^ k : Nat) : Int) from (Int.natCast_pow 2 k).symm]; exact wrapN64 _ (pow64 k hk)
theorem wpow32 (k : Nat) (hk : k < 32) : IntKind.u32.wrap (2 ^ k) = ((2 ^ k : Nat) : Int) := by
  rw [show ((2 : Int) ^ k) = ((2 ^ k : Nat) : Int) from (Int.natCast_pow 2 k).symm]; exact wrapN32 _ (pow32 k hk)
theorem set64I (b k : Nat) (hb : b < 18446744073709551616) (hk : k < 64) : bits BinOp.or IntKind.u64 (b : Int) (IntKind.u64.wrap (2 ^ k)) = (setN b k : Int) := by
  rw [wpow64 k hk, u64_or_nat _ _ hb (pow64 k hk)]; rfl
theorem set32I (b k : Nat) (hb : b < 4294967296) (hk : k < 32) : bits BinOp.or IntKind.u32 (b : Int) (IntKind.u32.wrap (2 ^ k)) = (setN b k : Int) := by
  rw [wpow32 k hk, u32_or_nat _ _ hb (pow32 k hk)]; rfl
theorem get64I (b k : Nat) (hb : b < 18446744073709551616) (hk : k < 64) : (bits BinOp.and IntKind.u64 (b : Int) (IntKind.u64.wrap (2 ^ k)) != 0) = bitB b k := by
  rw [wpow64 k hk, u64_and_nat _ _ hb (pow64 k hk), nat_bit]
  unfold bitB
  have hp := Nat.two_pow_pos k
  have h2 : b / 2 ^ k % 2 = 0 ∨ b / 2 ^ k % 2 = 1 := by omega
  rcases h2 with h | h <;> rw [h]
  · simp
  · rw [Nat.one_mul, decide_eq_true rfl]; exact bne_iff_ne.2 (by omega)
theorem get32I (b k : Nat) (hb : b < 4294967296) (hk : k < 32) : (bits BinOp.and IntKind.u32 (b : Int) (IntKind.u32.wrap (2 ^ k)) != 0) = bitB b k := by
  rw [wpow32 k hk, u32_and_nat _ _ hb (pow32 k hk), nat_bit]
  unfold bitB
  have hp := Nat.two_pow_pos k
  have h2 : b / 2 ^ k % 2 = 0 ∨ b / 2 ^ k % 2 = 1 := by omega
  rcases h2 with h | h <;> rw [h]
  · simp
  · rw [Nat.one_mul, decide_eq_true rfl]; exact bne_iff_ne.2 (by omega)
def clr64 (b k : Nat) : Nat := b &&& (18446744073709551615 ^^^ 2 ^ k)
def clr32 (b k : Nat) : Nat := b &&& (4294967295 ^^^ 2 ^ k)
theorem clr64I (b k : Nat) (hb : b < 18446744073709551616) (hk : k < 64) :
    bits BinOp.and IntKind.u64 (b : Int) (bits BinOp.xor IntKind.u64 IntKind.u64.max (IntKind.u64.wrap (2 ^ k))) = (clr64 b k : Int) := by
  rw [wpow64 k hk, show IntKind.u64.max = ((18446744073709551615 : Nat) : Int) from rfl, u64_xor_nat _ _ (by decide) (pow64 k hk),
    u64_and_nat _ _ hb (Nat.xor_lt_two_pow (n := 64) (by decide) (pow64 k hk))]
  rfl
theorem clr32I (b k : Nat) (hb : b < 4294967296) (hk : k < 32) :
    bits BinOp.and IntKind.u32 (b : Int) (bits BinOp.xor IntKind.u32 IntKind.u32.max (IntKind.u32.wrap (2 ^ k))) = (clr32 b k : Int) := by
  rw [wpow32 k hk, show IntKind.u32.max = ((4294967295 : Nat) : Int) from rfl, u32_xor_nat _ _ (by decide) (pow32 k hk),
    u32_and_nat _ _ hb (Nat.xor_lt_two_pow (n := 32) (by decide) (pow32 k hk))]
  rfl

/-- A number without its lowest k bits loses the next one, too. -/
theorem clr_step (w n k : Nat) (hn : n < 2 ^ w) (hk : k < w) : (n / 2 ^ k * 2 ^ k) &&& ((2 ^ w - 1) ^^^ 2 ^ k) = n / 2 ^ (k + 1) * 2 ^ (k + 1) := by
  apply Nat.eq_of_testBit_eq
  intro i
  rw [Nat.testBit_and, Nat.testBit_xor, Nat.testBit_two_pow_sub_one, Nat.testBit_two_pow, Nat.testBit_mul_two_pow, Nat.testBit_mul_two_pow, Nat.testBit_div_two_pow, Nat.testBit_div_two_pow]
  by_cases h1 : k + 1 ≤ i
  · have e1 : i - k + k = i := by omega
    have e2 : i - (k + 1) + (k + 1) = i := by omega
    rw [e1, e2]
    by_cases hi : i < w
    · simp [h1, hi, show k ≤ i by omega, show ¬ k = i by omega]
    · have : n.testBit i = false := Nat.testBit_lt_two_pow (Nat.lt_of_lt_of_le hn (Nat.pow_le_pow_right (by decide) (by omega)))
      simp [this]
  · by_cases h2 : k = i
    · subst h2; simp [hk]; intro h; omega
    · simp [show ¬ k ≤ i by omega, show ¬ k + 1 ≤ i by omega]
theorem clr64_step (n k : Nat) (hn : n < 18446744073709551616) (hk : k < 64) : clr64 (hiN n k) k = hiN n (k + 1) := clr_step 64 n k hn hk
theorem clr32_step (n k : Nat) (hn : n < 4294967296) (hk : k < 32) : clr32 (hiN n k) k = hiN n (k + 1) := clr_step 32 n k hn hk

theorem mod_succ (n k : Nat) : n % 2 ^ (k + 1) = n % 2 ^ k + 2 ^ k * (n / 2 ^ k % 2) := by rw [Nat.pow_succ, Nat.mod_mul]
theorem set_yes (n k : Nat) (h : bitB n k = true) : setN (lowN n k) k = lowN n (k + 1) := by
  unfold setN lowN
  rw [mod_succ, of_decide_eq_true h, Nat.or_comm, nat_join k _ _ (by simp) (Nat.mod_lt _ (Nat.two_pow_pos k))]
  omega
theorem set_no (n k : Nat) (h : bitB n k = false) : lowN n k = lowN n (k + 1) := by
  unfold lowN
  have : n / 2 ^ k % 2 = 0 := by have := of_decide_eq_false h; omega
  rw [mod_succ, this]; omega
theorem pc_succ (k : Nat) : ∀ n, pc (k + 1) n = pc k n + n / 2 ^ k % 2 := by
  induction k with
  | zero => intro n; simp [pc, bl]
  | succ k ih =>
    intro n
    have e1 : pc (k + 1 + 1) n = n % 2 + pc (k + 1) (n / 2) := by simp [pc, bl]
    have e2 : pc (k + 1) n = n % 2 + pc k (n / 2) := by simp [pc, bl]
    rw [e1, ih, e2, Nat.pow_succ, Nat.mul_comm, Nat.div_div_eq_div_mul]
    omega
theorem pc_yes (n k : Nat) (h : bitB n k = true) : pc (k + 1) n = pc k n + 1 := by rw [pc_succ, of_decide_eq_true h]
theorem pc_no (n k : Nat) (h : bitB n k = false) : pc (k + 1) n = pc k n := by
  have : n / 2 ^ k % 2 = 0 := by have := of_decide_eq_false h; omega
  rw [pc_succ, this]; omega
theorem pc_le (k : Nat) : ∀ n, pc k n ≤ k := by
  induction k with
  | zero => intro n; simp [pc, bl]
  | succ k ih => intro n; rw [pc_succ]; have := ih n; omega

theorem cdm (A M T : Nat) (h : A % M / T < 256) : (A : Int) % (M : Int) / (T : Int) % 256 = ((A % M / T : Nat) : Int) := by
  rw [← Int.natCast_emod, ← Int.natCast_ediv]
  generalize A % M / T = z at *
  omega
def q1 (b : Int) : Int := IntKind.u64.wrap (b - bits .and .u64 (b / 2) 6148914691236517205)
def q2 (x : Int) : Int := IntKind.u64.wrap (bits .and .u64 (x / 4) 3689348814741910323 + bits .and .u64 x 3689348814741910323)
def q3 (x : Int) : Int := bits .and .u64 (IntKind.u64.wrap (x + x / 16)) 1085102592571150095
def q5 (x : Int) : Int := IntKind.u64.wrap (x * 72340172838076673) / 72057594037927936 % 256
theorem pop64I (b : Nat) (hb : b < 18446744073709551616) : q5 (q3 (q2 (q1 b))) = (pc 64 b : Int) := by
  obtain ⟨h1, h2, h3, h4, h5, h6⟩ := pop64_nat b hb _ _ _ rfl rfl rfl
  generalize hp1 : b - ((b / 2) &&& 6148914691236517205) = p1 at *
  generalize hp2 : ((p1 / 4) &&& 3689348814741910323) + (p1 &&& 3689348814741910323) = p2 at *
  generalize hp3 : (p2 + p2 / 16) &&& 1085102592571150095 = p3 at *
  have e1 : q1 b = (p1 : Int) := by
    unfold q1
    rw [show (b : Int) / 2 = ((b / 2 : Nat) : Int) by omega, show (6148914691236517205 : Int) = ((6148914691236517205 : Nat) : Int) from rfl, u64_and_nat _ _ (by omega) (by decide),
      ← wrapN64 p1 h1, ← hp1]
    have : (b / 2) &&& 6148914691236517205 ≤ b := Nat.le_trans Nat.and_le_left (Nat.div_le_self _ _)
    congr 1; omega
  have e2 : q2 p1 = (p2 : Int) := by
    unfold q2
    rw [show (p1 : Int) / 4 = ((p1 / 4 : Nat) : Int) by omega, show (3689348814741910323 : Int) = ((3689348814741910323 : Nat) : Int) from rfl, u64_and_nat _ _ (by omega) (by decide),
      u64_and_nat _ _ h1 (by decide), ← Int.natCast_add, hp2, wrapN64 _ h2]
  have e3 : q3 p2 = (p3 : Int) := by
    unfold q3
    rw [show (p2 : Int) + (p2 : Int) / 16 = ((p2 + p2 / 16 : Nat) : Int) by omega, wrapN64 _ h3, show (1085102592571150095 : Int) = ((1085102592571150095 : Nat) : Int) from rfl,
      u64_and_nat _ _ h3 (by decide), hp3]
  rw [e1, e2, e3]
  unfold q5
  rw [IntKind.wrap_u64, ← h5, show (p3 : Int) * 72340172838076673 = ((p3 * 72340172838076673 : Nat) : Int) from (Int.natCast_mul _ _).symm]
  rw [← h5] at h6
  exact cdm _ 18446744073709551616 72057594037927936 (by omega)
def r1 (b : Int) : Int := (b - bits .and .u32 (b / 2) 1431655765) % 4294967296
def r2 (x : Int) : Int := bits .and .u32 (x / 4) 858993459 + bits .and .u32 x 858993459
def r3 (x : Int) : Int := bits .and .u32 ((x + x % 4294967296 / 16) % 4294967296) 252645135
def r5 (x : Int) : Int := x * 16843009 % 4294967296 / 16777216
theorem cdm1 (A M T : Nat) : (A : Int) % (M : Int) / (T : Int) = ((A % M / T : Nat) : Int) := by
  rw [← Int.natCast_emod, ← Int.natCast_ediv]
theorem pop32I (b : Nat) (hb : b < 4294967296) : r5 (r3 (r2 (r1 b))) = (pc 32 b : Int) := by
  obtain ⟨h1, h2, h3, h4, h5, h6⟩ := pop32_nat b hb _ _ _ rfl rfl rfl
  generalize hp1 : b - ((b / 2) &&& 1431655765) = p1 at *
  generalize hp2 : ((p1 / 4) &&& 858993459) + (p1 &&& 858993459) = p2 at *
  generalize hp3 : (p2 + p2 / 16) &&& 252645135 = p3 at *
  have e1 : r1 b = (p1 : Int) := by
    unfold r1
    rw [show (b : Int) / 2 = ((b / 2 : Nat) : Int) by omega, show (1431655765 : Int) = ((1431655765 : Nat) : Int) from rfl, u32_and_nat _ _ (by omega) (by decide), ← hp1]
    have : (b / 2) &&& 1431655765 ≤ b := Nat.le_trans Nat.and_le_left (Nat.div_le_self _ _)
    omega
  have e2 : r2 p1 = (p2 : Int) := by
    unfold r2
    rw [show (p1 : Int) / 4 = ((p1 / 4 : Nat) : Int) by omega, show (858993459 : Int) = ((858993459 : Nat) : Int) from rfl, u32_and_nat _ _ (by omega) (by decide),
      u32_and_nat _ _ h1 (by decide), ← Int.natCast_add, hp2]
  have e3 : r3 p2 = (p3 : Int) := by
    unfold r3
    rw [show ((p2 : Int) + (p2 : Int) % 4294967296 / 16) % 4294967296 = ((p2 + p2 / 16 : Nat) : Int) by omega, show (252645135 : Int) = ((252645135 : Nat) : Int) from rfl,
      u32_and_nat _ _ h3 (by decide), hp3]
  rw [e1, e2, e3]
  unfold r5
  rw [← h5, show (p3 : Int) * 16843009 = ((p3 * 16843009 : Nat) : Int) from (Int.natCast_mul _ _).symm]
  exact cdm1 _ 4294967296 16777216
end Go.Proofs.Ytanloagjjbkfjaa.BM
