/- Whole numbers as floats: they stand to each other as floats as they stand as numbers, and come back as they were; the least float is below them all. -/
import Derived.Laws.Cover2
import Derived.Laws.FloatArith
import Derived.Test.YtalphojbkeleiaaHeapKit
namespace Go.Proofs.Ytalphojbkeleiaa
namespace FH
open Go Ieee

def bot : Int := -1267650600228229401496703205376
/-- The float of a number; of 'bot', the least finite one. -/
def fb (p : Int) : Nat := if p = bot then 18442240474082181119 else floatOfInt .f64 p
def Pri (p : Int) : Prop := p = bot ∨ (-1000000 ≤ p ∧ p ≤ 1000000)
theorem log2_lt {m : Nat} (h : m < 9007199254740992) (h0 : m ≠ 0) : m.log2 ≤ 52 := by
  have := (Nat.log2_lt (k := 53) h0).2 h
  omega
theorem scaled {m : Nat} (h : m < 9007199254740992) (h0 : m ≠ 0) : m.log2 ≤ 52 ∧ 4503599627370496 ≤ m * 2 ^ (52 - m.log2) ∧ m * 2 ^ (52 - m.log2) < 9007199254740992 := by
  have hL := log2_lt h h0
  have hlo : 2 ^ m.log2 ≤ m := Nat.log2_self_le h0
  have hhi : m < 2 ^ (m.log2 + 1) := Nat.lt_log2_self
  refine ⟨hL, ?_, ?_⟩
  · have := Nat.mul_le_mul_right (2 ^ (52 - m.log2)) hlo
    rw [← Nat.pow_add, show m.log2 + (52 - m.log2) = 52 by omega] at this
    exact this
  · have := Nat.mul_lt_mul_of_pos_right hhi (Nat.two_pow_pos (52 - m.log2))
    rw [← Nat.pow_add, show m.log2 + 1 + (52 - m.log2) = 53 by omega] at this
    exact this
theorem d_binade : double.binade = 4503599627370496 := rfl
theorem d_inf : double.infRung = 9218868437227405312 := rfl
theorem d_sign : double.signWeight = 9223372036854775808 := rfl
theorem d_least : double.leastPlace = -1074 := rfl
theorem d_frac : double.fractionBits = 52 := rfl
theorem cut_even (s : Bool) (k : Nat) : Toward.even.cut s k 0 = k := by
  simp [Toward.cut, Nat.mod_one]
theorem read_word {s : Bool} {r e k : Nat} (he : 1 ≤ e) (he2 : e < 2047) (hk : k < 4503599627370496) (hr : r = e * 4503599627370496 + k) : double.read (double.word s r) = .number s (4503599627370496 + k) (-1074 + ((e - 1 : Nat) : Int)) := by
  have hneg : (double.word s r / double.signWeight % 2 == 1) = s := by
    unfold Format.word
    rw [d_sign]
    cases s
    · simp only [Bool.false_eq_true, if_false]
      rw [show r / 9223372036854775808 = 0 by omega]; rfl
    · simp only [if_true]
      rw [show (9223372036854775808 + r) / 9223372036854775808 = 1 by omega]; rfl
  have hrung : double.word s r % double.signWeight = r := by
    unfold Format.word
    rw [d_sign]
    cases s
    · simp only [Bool.false_eq_true, if_false]; omega
    · simp only [if_true]; omega
  unfold Format.read
  rw [hneg, hrung, d_binade, d_inf, d_least]
  have d1 : r / 4503599627370496 = e := by omega
  have d2 : r % 4503599627370496 = k := by omega
  simp only [d1, d2]
  rw [if_neg (by omega), if_pos (by omega)]
/-- What the float of a number reads as. -/
theorem read_nearest {n : Int} (h0 : n ≠ 0) (h : n.natAbs < 9007199254740992) : Format.read double (floatOfInt .f64 n) = .number (decide (n < 0)) (n.natAbs * 2 ^ (52 - n.natAbs.log2)) ((n.natAbs.log2 : Int) - 52) := by
  have hm : n.natAbs ≠ 0 := by omega
  obtain ⟨hL, hk1, hk2⟩ := scaled h hm
  have hw : floatOfInt .f64 n = double.word (decide (n < 0)) ((n.natAbs.log2 + 1022) * 4503599627370496 + n.natAbs * 2 ^ (52 - n.natAbs.log2)) := by
    show double.nearest (decide (n < 0)) n.natAbs 0 = _
    unfold Format.nearest
    rw [if_neg hm]
    have e1 : max (0 + (n.natAbs.log2 : Int) - (double.fractionBits : Nat)) double.leastPlace = (n.natAbs.log2 : Int) - 52 := by
      rw [d_frac, d_least]
      omega
    simp only [e1]
    have e2 : (0 - ((n.natAbs.log2 : Int) - 52)).toNat = 52 - n.natAbs.log2 := by omega
    have e3 : ((n.natAbs.log2 : Int) - 52 - 0).toNat = 0 := by omega
    have e4 : ((n.natAbs.log2 : Int) - 52 - double.leastPlace).toNat = n.natAbs.log2 + 1022 := by
      rw [d_least]; omega
    rw [e2, e3, e4, cut_even, Nat.shiftLeft_eq, d_binade, d_inf]
    congr 1
    omega
  rw [hw, read_word (e := n.natAbs.log2 + 1023) (k := n.natAbs * 2 ^ (52 - n.natAbs.log2) - 4503599627370496) (by omega) (by omega) (by omega) (by omega)]
  have f1 : 4503599627370496 + (n.natAbs * 2 ^ (52 - n.natAbs.log2) - 4503599627370496) = n.natAbs * 2 ^ (52 - n.natAbs.log2) := by omega
  have f2 : (-1074 : Int) + ((n.natAbs.log2 + 1023 - 1 : Nat) : Int) = (n.natAbs.log2 : Int) - 52 := by omega
  rw [f1, f2]
theorem read_zero : Format.read double (floatOfInt .f64 0) = .number false 0 (-1074) := by decide +kernel
theorem read_bot : Format.read double 18442240474082181119 = .number true 9007199254740991 971 := by decide +kernel
/-- A float with the number that it stands for, so many binary digits to the right. -/
theorem read_fb {p : Int} (h : p ≠ bot) (h1 : -1000000 ≤ p ∧ p ≤ 1000000) : ∃ (s : Bool) (m k : Nat), Format.read double (fb p) = .number s m (-(k : Int)) ∧ k ≤ 1074 ∧ (if s then -(m : Int) else (m : Int)) = p * 2 ^ k ∧ ((m = 0 ∧ s = false) ∨ (k ≤ 52 ∧ m < 9007199254740992 ∧ m = p.natAbs * 2 ^ k ∧ m.log2 = 52 ∧ s = decide (p < 0))) := by
  rw [fb, if_neg h]
  by_cases h0 : p = 0
  · subst h0
    exact ⟨false, 0, 1074, read_zero, by omega, by rw [Int.zero_mul]; rfl, Or.inl ⟨rfl, rfl⟩⟩
  · have hlt : p.natAbs < 9007199254740992 := by omega
    have hr := read_nearest h0 hlt
    obtain ⟨hL, g1, g2⟩ := scaled hlt (by omega)
    refine ⟨decide (p < 0), _, 52 - p.natAbs.log2, by rw [hr]; congr 1; omega, by omega, ?_, Or.inr ⟨by omega, g2, rfl, ?_, rfl⟩⟩
    · rw [Int.natCast_mul]
      have e : ((2 ^ (52 - p.natAbs.log2) : Nat) : Int) = 2 ^ (52 - p.natAbs.log2) := by simp
      rw [e]
      by_cases hn : p < 0
      · simp only [hn, decide_true, if_true]
        rw [← Int.neg_mul]
        congr 1; omega
      · simp only [hn, decide_false, Bool.false_eq_true, if_false]
        congr 1; omega
    · have h1 := (Nat.log2_lt (n := p.natAbs * 2 ^ (52 - p.natAbs.log2)) (k := 53) (by omega)).2 g2
      have h2 := (Nat.le_log2 (n := p.natAbs * 2 ^ (52 - p.natAbs.log2)) (k := 52) (by omega)).2 g1
      omega
theorem signed_eq (s : Bool) (m k : Nat) : signed s m k = (if s then -(m : Int) else (m : Int)) * 2 ^ k := by
  unfold signed
  rw [Nat.shiftLeft_eq, Int.natCast_mul]
  have e : ((2 ^ k : Nat) : Int) = 2 ^ k := by simp
  cases s <;> simp [e, Int.neg_mul]
theorem order_num (s t : Bool) (m n : Nat) (i j : Int) : Datum.order (.number s m i) (.number t n j) = some (compare (signed s m (i - min i j).toNat) (signed t n (j - min i j).toNat)) := rfl
theorem compare_lt_iff_lt {a b : Int} : compare a b = .lt ↔ a < b := by
  simp only [compare, compareOfLessAndEq]
  by_cases h : a < b
  · simp [h]
  · by_cases e : a = b <;> simp [h, e]
theorem compare_gt_iff_gt {a b : Int} : compare a b = .gt ↔ b < a := by
  simp only [compare, compareOfLessAndEq]
  by_cases h : a < b
  · simp [h]; omega
  · by_cases e : a = b
    · simp [e]
    · simp [h, e]; omega
theorem compare_mul {a b c : Int} (hc : 0 < c) : compare (a * c) (b * c) = compare a b := by
  rcases Int.lt_trichotomy a b with h | h | h
  · have h1 := Int.mul_lt_mul_of_pos_right h hc
    rw [compare_lt_iff_lt.2 h, compare_lt_iff_lt.2 h1]
  · subst h; simp
  · have h1 := Int.mul_lt_mul_of_pos_right h hc
    rw [compare_gt_iff_gt.2 h, compare_gt_iff_gt.2 h1]
theorem pow_pos (k : Nat) : (0 : Int) < 2 ^ k := by
  have : ((2 ^ k : Nat) : Int) = 2 ^ k := by simp
  rw [← this]
  have := Nat.two_pow_pos k
  omega
theorem order_fb {p q : Int} (hp : Pri p) (hq : Pri q) : FloatKind.f64.format.order (fb p) (fb q) = some (compare p q) := by
  show (Format.read double (fb p)).order (Format.read double (fb q)) = _
  by_cases ep : p = bot
  · subst ep
    have e1 : fb bot = 18442240474082181119 := by simp [fb]
    rw [e1, read_bot]
    by_cases eq : q = bot
    · subst eq
      rw [e1, read_bot, order_num]
      simp
    · obtain ⟨t, n, j, hr, hj, hv, _⟩ := read_fb eq (hq.resolve_left eq)
      rw [hr, order_num]
      have hb : min (971 : Int) (-(j : Int)) = -(j : Int) := by omega
      rw [hb, signed_eq, signed_eq, hv]
      have e2 : (-(j : Int) - -(j : Int)).toNat = 0 := by omega
      have e3 : ((971 : Int) - -(j : Int)).toNat = 971 + j := by omega
      rw [e2, e3]
      have e4 : (if true = true then -((9007199254740991 : Nat) : Int) else ((9007199254740991 : Nat) : Int)) * 2 ^ (971 + j) = (-9007199254740991 * 2 ^ 971) * 2 ^ j := by
        simp only [if_true]
        rw [Int.pow_add, ← Int.mul_assoc]
        rfl
      rw [e4, Int.pow_zero, Int.mul_one, compare_mul (pow_pos j)]
      have hq' := hq.resolve_left eq
      have l1 : (-9007199254740991 * 2 ^ 971 : Int) < q := by
        have : (-9007199254740991 * 2 ^ 971 : Int) < -1000000 := by decide +kernel
        omega
      have l2 : bot < q := by unfold bot; omega
      rw [compare_lt_iff_lt.2 l1, compare_lt_iff_lt.2 l2]
  · obtain ⟨s, m, i, hr, hi, hv, _⟩ := read_fb ep (hp.resolve_left ep)
    rw [hr]
    by_cases eq : q = bot
    · subst eq
      have e1 : fb bot = 18442240474082181119 := by simp [fb]
      rw [e1, read_bot, order_num]
      have hb : min (-(i : Int)) (971 : Int) = -(i : Int) := by omega
      rw [hb, signed_eq, signed_eq, hv]
      have e2 : (-(i : Int) - -(i : Int)).toNat = 0 := by omega
      have e3 : ((971 : Int) - -(i : Int)).toNat = 971 + i := by omega
      rw [e2, e3]
      have e4 : (if true = true then -((9007199254740991 : Nat) : Int) else ((9007199254740991 : Nat) : Int)) * 2 ^ (971 + i) = (-9007199254740991 * 2 ^ 971) * 2 ^ i := by
        simp only [if_true]
        rw [Int.pow_add, ← Int.mul_assoc]
        rfl
      rw [e4, Int.pow_zero, Int.mul_one, compare_mul (pow_pos i)]
      have hp' := hp.resolve_left ep
      have l1 : (-9007199254740991 * 2 ^ 971 : Int) < p := by
        have : (-9007199254740991 * 2 ^ 971 : Int) < -1000000 := by decide +kernel
        omega
      have l2 : bot < p := by unfold bot; omega
      rw [compare_gt_iff_gt.2 l1, compare_gt_iff_gt.2 l2]
    · obtain ⟨t, n, j, hr', hj, hv', _⟩ := read_fb eq (hq.resolve_left eq)
      rw [hr', order_num, signed_eq, signed_eq, hv, hv']
      rw [Int.mul_assoc, Int.mul_assoc, ← Int.pow_add, ← Int.pow_add]
      have e2 : i + (-(i : Int) - min (-(i : Int)) (-(j : Int))).toNat = max i j := by omega
      have e3 : j + (-(j : Int) - min (-(i : Int)) (-(j : Int))).toNat = max i j := by omega
      rw [e2, e3, compare_mul (pow_pos _)]
theorem lss_fb {p q : Int} (hp : Pri p) (hq : Pri q) : (FloatKind.f64.format.order (fb p) (fb q) == some .lt) = decide (p < q) := by
  rw [order_fb hp hq]
  rcases Int.lt_trichotomy p q with h | h | h
  · rw [compare_lt_iff_lt.2 h]; simp [h]
  · subst h; simp
  · rw [compare_gt_iff_gt.2 h]
    have : ¬ p < q := by omega
    simp [this]
theorem leq_fb {p q : Int} (hp : Pri p) (hq : Pri q) : (FloatKind.f64.format.order (fb p) (fb q) == some .lt || FloatKind.f64.format.order (fb p) (fb q) == some .eq) = decide (p ≤ q) := by
  rw [order_fb hp hq]
  rcases Int.lt_trichotomy p q with h | h | h
  · rw [compare_lt_iff_lt.2 h]
    have : p ≤ q := by omega
    simp [this]
  · subst h; simp
  · rw [compare_gt_iff_gt.2 h]
    have : ¬ p ≤ q := by omega
    simp [this]
theorem fb_int {p : Int} (hp : Pri p) (hb : p ≠ bot) : floatToIntVal .f64 (fb p) .i64 = some p := by
  have h1 := hp.resolve_left hb
  obtain ⟨s, m, k, hr, hk, hv, hc⟩ := read_fb hb h1
  unfold floatToIntVal
  have e : (FloatKind.f64.decode (fb p)).toInt .zero = some p := by
    show (Format.read double (fb p)).toInt .zero = _
    rw [hr]
    unfold Datum.toInt Datum.integral
    dsimp only
    rw [signed_eq, Int.pow_zero, Int.mul_one]
    have e1 : (-(k : Int)).toNat = 0 := by omega
    have e2 : (- -(k : Int)).toNat = k := by omega
    rw [e1, e2]
    rcases hc with ⟨rfl, rfl⟩ | ⟨h2, h3, h4, h5, h6⟩
    · have hp0 : p = 0 := by
        have h7 : p * 2 ^ k = 0 := by simpa using hv.symm
        rcases Int.mul_eq_zero.1 h7 with h8 | h8
        · exact h8
        · have := pow_pos k; omega
      subst hp0
      have : Toward.zero.cut false (0 <<< 0) k = 0 := by
        unfold Toward.cut
        simp
      rw [this]
      rfl
    · have : Toward.zero.cut s (m <<< 0) k = p.natAbs := by
        have e3 : min k (52 + 2) = k := by omega
        have h5' : (m * 2 ^ 0).log2 = 52 := by rw [Nat.pow_zero, Nat.mul_one]; exact h5
        simp only [Toward.cut, Nat.shiftLeft_eq, h5', e3, Nat.one_mul]
        rw [Nat.pow_zero, Nat.mul_one, h4, Nat.mul_div_cancel _ (Nat.two_pow_pos k)]
        simp
      rw [this, h6]
      by_cases hn : p < 0
      · simp only [hn, decide_true, if_true]; congr 1; omega
      · simp only [hn, decide_false, Bool.false_eq_true, if_false]; congr 1; omega
  rw [e]
  dsimp only
  rw [if_pos]
  have a1 : IntKind.i64.min = -9223372036854775808 := rfl
  have a2 : IntKind.i64.max = 9223372036854775807 := rfl
  rw [a1, a2]
  omega
end FH
end Go.Proofs.Ytalphojbkeleiaa
