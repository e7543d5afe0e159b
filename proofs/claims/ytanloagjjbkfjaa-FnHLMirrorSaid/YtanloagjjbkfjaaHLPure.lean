/- The plain law of the Hilbert curve: its numbers from the other side are as far from the end. No program is in sight here. -/
import Derived.WalkKit
namespace Go.Proofs.Ytanloagjjbkfjaa.HL
open Go.RowKit

def bt (a s : Int) : Bool := decide (0 < bits .and .i32 a s)
def sAt : Nat → Int
  | 0 => 0
  | n + 1 => ((2 ^ n : Nat) : Int)
def quad : Bool → Bool → Int
  | false, false => 0
  | false, true => 1
  | true, false => 3
  | true, true => 2
def nx (rx ry : Bool) (s a b : Int) : Int × Int :=
  if ry then (a, b) else if rx then (wrap32 (s - 1 - b), wrap32 (s - 1 - a)) else (b, a)
def encL : Nat → Int → Int → Int → Int
  | 0, _, _, d => d
  | n + 1, a, b, d =>
    encL n (nx (bt a (sAt (n + 1))) (bt b (sAt (n + 1))) (sAt (n + 1)) a b).1 (nx (bt a (sAt (n + 1))) (bt b (sAt (n + 1))) (sAt (n + 1)) a b).2
      (wrap64 (d + wrap64 (wrap64 (sAt (n + 1) * sAt (n + 1)) * quad (bt a (sAt (n + 1))) (bt b (sAt (n + 1))))))

def qN (rx ry : Nat) : Nat := if rx = 0 then ry else 3 - ry
def H : Nat → Nat → Nat → Nat
  | 0, _, _ => 0
  | n + 1, x, y =>
    qN (x / 2 ^ n % 2) (y / 2 ^ n % 2) * 4 ^ n +
      (if y / 2 ^ n % 2 = 1 then H n (x % 2 ^ n) (y % 2 ^ n)
       else if x / 2 ^ n % 2 = 1 then H n (2 ^ n - 1 - y % 2 ^ n) (2 ^ n - 1 - x % 2 ^ n)
       else H n (y % 2 ^ n) (x % 2 ^ n))

theorem pow4 (n : Nat) : 4 ^ (n + 1) = 4 * 4 ^ n := by rw [Nat.pow_succ]; omega
theorem pow4_pos (n : Nat) : 0 < 4 ^ n := Nat.pow_pos (by decide)
theorem pow2_pos (n : Nat) : 0 < 2 ^ n := Nat.pow_pos (by decide)
theorem qN_lt (a b : Nat) (hb : b < 2) : qN a b < 4 := by unfold qN; split <;> omega

theorem H_lt (n : Nat) : ∀ x y, H n x y < 4 ^ n := by
  induction n with
  | zero => intro x y; simp [H]
  | succ n ih =>
    intro x y
    have hq := qN_lt (x / 2 ^ n % 2) (y / 2 ^ n % 2) (by omega)
    have h1 : ∀ z, z < 4 ^ n → qN (x / 2 ^ n % 2) (y / 2 ^ n % 2) * 4 ^ n + z < 4 * 4 ^ n := by
      intro z hz
      have : qN (x / 2 ^ n % 2) (y / 2 ^ n % 2) * 4 ^ n ≤ 3 * 4 ^ n := Nat.mul_le_mul_right _ (by omega)
      omega
    rw [pow4]
    simp only [H]
    apply h1
    split
    · exact ih _ _
    · split <;> exact ih _ _

/-- A place splits into its highest bit and the rest. -/
theorem split2 (n x : Nat) (hx : x < 2 ^ (n + 1)) : ∃ b r, b < 2 ∧ r < 2 ^ n ∧ x = 2 ^ n * b + r ∧ x / 2 ^ n % 2 = b ∧ x % 2 ^ n = r := by
  refine ⟨x / 2 ^ n, x % 2 ^ n, ?_, Nat.mod_lt _ (pow2_pos n), (Nat.div_add_mod _ _).symm, ?_, rfl⟩
  · rw [Nat.div_lt_iff_lt_mul (pow2_pos n)]; rw [Nat.pow_succ] at hx; omega
  · apply Nat.mod_eq_of_lt; rw [Nat.div_lt_iff_lt_mul (pow2_pos n)]; rw [Nat.pow_succ] at hx; omega

theorem div_parts (n b r : Nat) (hb : b < 2) (hr : r < 2 ^ n) : (2 ^ n * b + r) / 2 ^ n % 2 = b ∧ (2 ^ n * b + r) % 2 ^ n = r := by
  constructor
  · rw [Nat.mul_add_div (pow2_pos n), Nat.div_eq_of_lt hr]; omega
  · rw [Nat.mul_add_mod, Nat.mod_eq_of_lt hr]

theorem H_eq (n b r c s : Nat) (hb : b < 2) (hr : r < 2 ^ n) (hc : c < 2) (hs : s < 2 ^ n) :
    H (n + 1) (2 ^ n * b + r) (2 ^ n * c + s) = qN b c * 4 ^ n + (if c = 1 then H n r s else if b = 1 then H n (2 ^ n - 1 - s) (2 ^ n - 1 - r) else H n s r) := by
  obtain ⟨h1, h2⟩ := div_parts n b r hb hr
  obtain ⟨h3, h4⟩ := div_parts n c s hc hs
  simp only [H, h1, h2, h3, h4]

theorem mirror (n : Nat) : ∀ x y, x < 2 ^ n → y < 2 ^ n → H n (2 ^ n - 1 - x) y + H n x y + 1 = 4 ^ n := by
  induction n with
  | zero => intro x y _ _; simp [H]
  | succ n ih =>
    intro x y hx hy
    obtain ⟨b, r, hb, hr, hxe, _, _⟩ := split2 n x hx
    obtain ⟨c, s, hc, hs, hye, _, _⟩ := split2 n y hy
    have hm : 2 ^ (n + 1) - 1 - x = 2 ^ n * (1 - b) + (2 ^ n - 1 - r) := by
      rw [hxe, Nat.pow_succ]
      have : b = 0 ∨ b = 1 := by omega
      rcases this with rfl | rfl <;> omega
    rw [hm, hxe, hye, H_eq n (1 - b) _ c s (by omega) (by omega) hc hs, H_eq n b r c s hb hr hc hs, pow4]
    have h1 := ih r s hr hs
    have h2 := ih s r hs hr
    have h3 := ih (2 ^ n - 1 - s) (2 ^ n - 1 - r) (by omega) (by omega)
    have e1 : 2 ^ n - 1 - (2 ^ n - 1 - r) = r := by omega
    have e2 : 2 ^ n - 1 - (2 ^ n - 1 - s) = s := by omega
    rw [e2] at h3
    have hb' : b = 0 ∨ b = 1 := by omega
    have hc' : c = 0 ∨ c = 1 := by omega
    rcases hb' with rfl | rfl <;> rcases hc' with rfl | rfl <;> simp [qN, e1] <;> omega

/-! ### The numbers of Go's text -/

theorem wrap32_mod (z : Int) (n : Nat) (hn : n ≤ 32) : wrap32 z % ((2 ^ n : Nat) : Int) = z % ((2 ^ n : Nat) : Int) := by
  have hd : ((2 ^ n : Nat) : Int) ∣ 4294967296 := by
    refine ⟨((2 ^ (32 - n) : Nat) : Int), ?_⟩
    rw [← Int.natCast_mul, ← Nat.pow_add, show n + (32 - n) = 32 by omega]; rfl
  obtain ⟨t, ht⟩ := hd
  have e : wrap32 z = z - ((2 ^ n : Nat) : Int) * (t * ((z + 2147483648) / 4294967296)) := by
    rw [← Int.mul_assoc, ← ht]; unfold wrap32; omega
  rw [e, Int.sub_mul_emod_self_left]

theorem bt_eq (n : Nat) (hn : n ≤ 30) (a : Int) (X : Nat) (h : a % ((2 ^ (n + 1) : Nat) : Int) = (X : Int)) :
    bt a ((2 ^ n : Nat) : Int) = decide (X / 2 ^ n % 2 = 1) := by
  have hle : 2 ^ n ≤ 2 ^ 30 := Nat.pow_le_pow_right (by decide) hn
  obtain ⟨N, hN⟩ : ∃ N : Nat, a % 4294967296 = (N : Int) := ⟨(a % 4294967296).toNat, by omega⟩
  have hX : N % 2 ^ (n + 1) = X := by
    have hd : ((2 ^ (n + 1) : Nat) : Int) ∣ 4294967296 := by
      refine ⟨((2 ^ (31 - n) : Nat) : Int), ?_⟩
      rw [← Int.natCast_mul, ← Nat.pow_add, show n + 1 + (31 - n) = 32 by omega]; rfl
    have := Int.emod_emod_of_dvd a hd
    rw [hN, h] at this
    exact_mod_cast this
  have hb : N / 2 ^ n % 2 = X / 2 ^ n % 2 := by
    rw [← hX, Nat.pow_succ, Nat.mod_mul_right_div_self, Nat.mod_mod]
  have e : bits .and .i32 a ((2 ^ n : Nat) : Int) = ((N / 2 ^ n % 2 * 2 ^ n : Nat) : Int) := by
    have ha : (BitVec.ofInt 32 a).toNat = N := by
      rw [BitVec.toNat_ofInt]
      have : a % ((2 ^ 32 : Nat) : Int) = (N : Int) := by rw [← hN]; rfl
      rw [this]; rfl
    have hs : (BitVec.ofInt 32 ((2 ^ n : Nat) : Int)).toNat = 2 ^ n := by
      rw [BitVec.ofInt_natCast, BitVec.toNat_ofNat, Nat.mod_eq_of_lt (Nat.lt_of_le_of_lt hle (by decide))]
    have hlt : N / 2 ^ n % 2 * 2 ^ n < 2147483648 := by
      have : N / 2 ^ n % 2 * 2 ^ n ≤ 1 * 2 ^ n := Nat.mul_le_mul_right _ (by omega)
      omega
    show IntKind.i32.wrap (BitVec.ofInt 32 a &&& BitVec.ofInt 32 ((2 ^ n : Nat) : Int)).toNat = _
    rw [BitVec.toNat_and, ha, hs, nat_bit, IntKind.wrap_i32]
    omega
  unfold bt
  rw [e, hb, decide_eq_decide]
  have h2 : X / 2 ^ n % 2 = 0 ∨ X / 2 ^ n % 2 = 1 := by omega
  have hp := pow2_pos n
  rcases h2 with h2 | h2 <;> rw [h2]
  · simp
  · rw [Nat.one_mul]
    exact ⟨fun _ => rfl, fun _ => by exact_mod_cast hp⟩

theorem quad_qN (b c : Nat) (hb : b < 2) (hc : c < 2) : quad (decide (b = 1)) (decide (c = 1)) = (qN b c : Int) := by
  have hb' : b = 0 ∨ b = 1 := by omega
  have hc' : c = 0 ∨ c = 1 := by omega
  rcases hb' with rfl | rfl <;> rcases hc' with rfl | rfl <;> rfl

theorem low_mod (n : Nat) (a : Int) (b r : Nat) (h : a % ((2 ^ (n + 1) : Nat) : Int) = ((2 ^ n * b + r : Nat) : Int)) (hr : r < 2 ^ n) :
    a % ((2 ^ n : Nat) : Int) = (r : Int) := by
  have hd : ((2 ^ n : Nat) : Int) ∣ ((2 ^ (n + 1) : Nat) : Int) := ⟨2, by rw [Nat.pow_succ]; simp⟩
  have := Int.emod_emod_of_dvd a hd
  rw [h] at this
  rw [← this, ← Int.natCast_emod, Nat.mul_add_mod, Nat.mod_eq_of_lt hr]

theorem turned_mod (n : Nat) (hn : n ≤ 31) (a : Int) (r : Nat) (hr : r < 2 ^ n) (h : a % ((2 ^ n : Nat) : Int) = (r : Int)) :
    wrap32 (((2 ^ n : Nat) : Int) - 1 - a) % ((2 ^ n : Nat) : Int) = ((2 ^ n - 1 - r : Nat) : Int) := by
  rw [wrap32_mod _ n (by omega)]
  have e : ((2 ^ n : Nat) : Int) - 1 - a = ((2 ^ n - 1 - r : Nat) : Int) - ((2 ^ n : Nat) : Int) * (a / ((2 ^ n : Nat) : Int)) := by
    have := Int.emod_add_mul_ediv a ((2 ^ n : Nat) : Int)
    omega
  rw [e, Int.sub_mul_emod_self_left, ← Int.natCast_emod, Nat.mod_eq_of_lt (by omega)]

theorem sq (n : Nat) : ((2 ^ n : Nat) : Int) * ((2 ^ n : Nat) : Int) = ((4 ^ n : Nat) : Int) := by
  rw [← Int.natCast_mul, ← Nat.pow_add, ← Nat.two_mul, Nat.pow_mul]

theorem encL_eq (n : Nat) (hn : n ≤ 31) : ∀ (a b d : Int) (X Y : Nat), X < 2 ^ n → Y < 2 ^ n →
    a % ((2 ^ n : Nat) : Int) = (X : Int) → b % ((2 ^ n : Nat) : Int) = (Y : Int) → 0 ≤ d → d + ((4 ^ n : Nat) : Int) ≤ 4611686018427387904 →
    encL n a b d = d + (H n X Y : Int) := by
  induction n with
  | zero => intro a b d X Y _ _ _ _ _ _; simp [encL, H]
  | succ n ih =>
    intro a b d X Y hX hY ha hb hd hd2
    obtain ⟨p, r, hp, hr, rfl, e1, _⟩ := split2 n X hX
    obtain ⟨q, s, hq, hs, rfl, e2, _⟩ := split2 n Y hY
    have hA : bt a (sAt (n + 1)) = decide (p = 1) := by rw [sAt, bt_eq n (by omega) a _ ha, e1]
    have hB : bt b (sAt (n + 1)) = decide (q = 1) := by rw [sAt, bt_eq n (by omega) b _ hb, e2]
    have la := low_mod n a p r ha hr
    have lb := low_mod n b q s hb hs
    have ta := turned_mod n (by omega) a r hr la
    have tb := turned_mod n (by omega) b s hs lb
    have hqn := qN_lt p q hq
    have h4 := pow4 n
    have h4p := pow4_pos n
    have hl : qN p q * 4 ^ n ≤ 3 * 4 ^ n := Nat.mul_le_mul_right _ (by omega)
    rw [encL, hA, hB, quad_qN p q hp hq, H_eq n p r q s hp hr hq hs]
    rw [show sAt (n + 1) = ((2 ^ n : Nat) : Int) from rfl, sq, IntWalk.wrap64_in ((4 ^ n : Nat) : Int) (by constructor <;> omega), ← Int.natCast_mul, Nat.mul_comm (4 ^ n)]
    rw [IntWalk.wrap64_in ((qN p q * 4 ^ n : Nat) : Int) (by constructor <;> omega), IntWalk.wrap64_in _ (by constructor <;> omega)]
    have hq' : q = 0 ∨ q = 1 := by omega
    have hp' : p = 0 ∨ p = 1 := by omega
    rcases hq' with rfl | rfl
    · rcases hp' with rfl | rfl
      · simp only [nx, Nat.zero_ne_one, decide_false, Bool.false_eq_true, if_false]
        rw [ih (by omega) b a _ s r hs hr lb la (by omega) (by omega)]
        omega
      · simp only [nx, Nat.zero_ne_one, decide_false, Bool.false_eq_true, if_false, decide_true, if_true]
        rw [ih (by omega) _ _ _ _ _ (by omega) (by omega) tb ta (by omega) (by omega)]
        omega
    · simp only [nx, decide_true, if_true]
      rw [ih (by omega) a b _ r s hr hs la lb (by omega) (by omega)]
      omega

/-- What Encode answers. -/
def enc (x y : Int) : Int := encL 31 x y 0
theorem enc_eq (x y : Nat) (hx : x < 2147483648) (hy : y < 2147483648) : enc x y = (H 31 x y : Int) := by
  unfold enc
  rw [encL_eq 31 (Nat.le_refl _) x y 0 x y hx hy]
  · omega
  · exact Int.emod_eq_of_lt (by omega) (by exact_mod_cast hx)
  · exact Int.emod_eq_of_lt (by omega) (by exact_mod_cast hy)
  · omega
  · decide

theorem enc_bound (x y : Nat) (hx : x < 2147483648) (hy : y < 2147483648) : 0 ≤ enc x y ∧ enc x y < 4611686018427387904 := by
  rw [enc_eq x y hx hy]
  have := H_lt 31 x y
  have h : (4 : Nat) ^ 31 = 4611686018427387904 := by decide
  omega

theorem enc_mirror (x y : Nat) (hx : x < 2147483648) (hy : y < 2147483648) : enc (2147483647 - x) y = 4611686018427387903 - enc x y := by
  have e : (2147483647 - (x : Int)) = ((2 ^ 31 - 1 - x : Nat) : Int) := by omega
  rw [e, enc_eq _ y (by omega) hy, enc_eq x y hx hy]
  have := mirror 31 x y hx hy
  have h : (4 : Nat) ^ 31 = 4611686018427387904 := by decide
  omega

end Go.Proofs.Ytanloagjjbkfjaa.HL
