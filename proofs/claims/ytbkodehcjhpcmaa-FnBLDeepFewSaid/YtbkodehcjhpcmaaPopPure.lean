/- How many bits of a number are set, by adding neighbours: plain numbers and lists. -/
import Derived.WalkKit
namespace Go.Proofs.Ytbkodehcjhpcmaa.Pop

def evl (D : Nat) : List Nat → Nat
  | [] => 0
  | d :: l => d + D * evl D l
def sums : List Nat → List Nat
  | a :: b :: l => (a + b) :: sums l
  | _ => []
def evens : List Nat → List Nat
  | a :: _ :: l => a :: evens l
  | _ => []
def odds : List Nat → List Nat
  | _ :: b :: l => b :: odds l
  | _ => []
def mk (B : Nat) : Nat → Nat
  | 0 => 0
  | n + 1 => (B - 1) + B * B * mk B n
/-- The bits of a number, the lowest one first. -/
def bl : Nat → Nat → List Nat
  | 0, _ => []
  | k + 1, x => x % 2 :: bl k (x / 2)
/-- How many of the lowest k bits are set. -/
def pc (k x : Nat) : Nat := (bl k x).sum

theorem bl_len (k : Nat) : ∀ x, (bl k x).length = k := by
  induction k with
  | zero => intro x; rfl
  | succ k ih => intro x; simp [bl, ih]
theorem bl_ev (k : Nat) : ∀ x, evl 2 (bl k x) = x % 2 ^ k := by
  induction k with
  | zero => intro x; simp [bl, evl]; omega
  | succ k ih =>
    intro x
    rw [bl, evl, ih, Nat.pow_succ, Nat.mul_comm (2 ^ k) 2, Nat.mod_mul]
theorem bl_le (k : Nat) : ∀ x, ∀ d ∈ bl k x, d ≤ 1 := by
  induction k with
  | zero => intro x d h; simp [bl] at h
  | succ k ih =>
    intro x d h
    rw [bl, List.mem_cons] at h
    rcases h with h | h
    · omega
    · exact ih _ d h

theorem and_split (s p q m n : Nat) (hp : p < 2 ^ s) (hm : m < 2 ^ s) : (p + 2 ^ s * q) &&& (m + 2 ^ s * n) = (p &&& m) + 2 ^ s * (q &&& n) := by
  have hpm : p &&& m < 2 ^ s := Nat.and_lt_two_pow _ hm
  apply Nat.eq_of_testBit_eq
  intro i
  rw [Nat.testBit_and, Nat.add_comm p, Nat.add_comm m, Nat.add_comm (p &&& m), Nat.testBit_two_pow_mul_add _ hp, Nat.testBit_two_pow_mul_add _ hm, Nat.testBit_two_pow_mul_add _ hpm]
  split
  · rw [Nat.testBit_and]
  · rw [Nat.testBit_and]

/-- A list of an even length is taken by two. -/
theorem twos {P : List Nat → Prop} (h0 : P []) (h2 : ∀ a b l, P l → P (a :: b :: l)) : ∀ n (l : List Nat), l.length = 2 * n → P l := by
  intro n
  induction n with
  | zero => intro l h; have : l = [] := List.length_eq_zero_iff.1 (by omega); rw [this]; exact h0
  | succ n ih =>
    intro l h
    match l, h with
    | a :: b :: l, h => exact h2 a b l (ih l (by simp at h; omega))

theorem sq_pow (s : Nat) : 2 ^ s * 2 ^ s = 2 ^ (2 * s) := by rw [← Nat.pow_add, Nat.two_mul]

theorem lo_mask (s : Nat) : ∀ n (l : List Nat), l.length = 2 * n → (∀ d ∈ l, d < 2 ^ s) → evl (2 ^ s) l &&& mk (2 ^ s) n = evl (2 ^ (2 * s)) (evens l) := by
  intro n
  induction n with
  | zero => intro l h _; have : l = [] := List.length_eq_zero_iff.1 (by omega); subst this; simp [evl, mk, evens]
  | succ n ih =>
    intro l h hd
    match l, h, hd with
    | a :: b :: l, h, hd =>
      have ha : a < 2 ^ s := hd a (by simp)
      have hb : b < 2 ^ s := hd b (by simp)
      have hi := ih l (by simp at h; omega) (fun d h => hd d (by simp [h]))
      have e1 : evl (2 ^ s) (a :: b :: l) = (a + 2 ^ s * b) + 2 ^ (2 * s) * evl (2 ^ s) l := by
        rw [evl, evl, Nat.mul_add, ← Nat.mul_assoc, sq_pow]; omega
      have hs := Nat.two_pow_pos s
      have hab : a + 2 ^ s * b < 2 ^ (2 * s) := by
        rw [← sq_pow]
        have : 2 ^ s * b ≤ 2 ^ s * (2 ^ s - 1) := Nat.mul_le_mul_left _ (by omega)
        rw [Nat.mul_sub, Nat.mul_one] at this
        have : 2 ^ s ≤ 2 ^ s * 2 ^ s := Nat.le_mul_of_pos_left _ hs
        omega
      have hms : 2 ^ s - 1 < 2 ^ (2 * s) := by
        have : 2 ^ s ≤ 2 ^ (2 * s) := Nat.pow_le_pow_right (by decide) (by omega)
        omega
      rw [e1, mk, sq_pow, and_split _ _ _ _ _ hab hms, hi, Nat.and_two_pow_sub_one_eq_mod, Nat.add_mul_mod_self_left, Nat.mod_eq_of_lt ha]
      rfl

theorem hi_mask (s : Nat) : ∀ n (l : List Nat), l.length = 2 * n → (∀ d ∈ l, d < 2 ^ s) → (evl (2 ^ s) l / 2 ^ s) &&& mk (2 ^ s) n = evl (2 ^ (2 * s)) (odds l) := by
  intro n
  induction n with
  | zero => intro l h _; have : l = [] := List.length_eq_zero_iff.1 (by omega); subst this; simp [evl, mk, odds]
  | succ n ih =>
    intro l h hd
    match l, h, hd with
    | a :: b :: l, h, hd =>
      have ha : a < 2 ^ s := hd a (by simp)
      have hb : b < 2 ^ s := hd b (by simp)
      have hi := ih l (by simp at h; omega) (fun d h => hd d (by simp [h]))
      have hs := Nat.two_pow_pos s
      have e1 : evl (2 ^ s) (a :: b :: l) / 2 ^ s = (b + 2 ^ s * (evl (2 ^ s) l % 2 ^ s)) + 2 ^ (2 * s) * (evl (2 ^ s) l / 2 ^ s) := by
        have e2 : evl (2 ^ s) (a :: b :: l) = a + 2 ^ s * (b + 2 ^ s * evl (2 ^ s) l) := rfl
        rw [e2, Nat.add_mul_div_left _ _ hs, Nat.div_eq_of_lt ha, ← sq_pow, Nat.mul_assoc]
        have := Nat.div_add_mod (evl (2 ^ s) l) (2 ^ s)
        have h3 : 2 ^ s * (2 ^ s * (evl (2 ^ s) l / 2 ^ s) + evl (2 ^ s) l % 2 ^ s) = 2 ^ s * evl (2 ^ s) l := by rw [this]
        rw [Nat.mul_add] at h3
        omega
      have hab : b + 2 ^ s * (evl (2 ^ s) l % 2 ^ s) < 2 ^ (2 * s) := by
        rw [← sq_pow]
        have hm : evl (2 ^ s) l % 2 ^ s < 2 ^ s := Nat.mod_lt _ hs
        have : 2 ^ s * (evl (2 ^ s) l % 2 ^ s) ≤ 2 ^ s * (2 ^ s - 1) := Nat.mul_le_mul_left _ (by omega)
        rw [Nat.mul_sub, Nat.mul_one] at this
        have : 2 ^ s ≤ 2 ^ s * 2 ^ s := Nat.le_mul_of_pos_left _ hs
        omega
      have hms : 2 ^ s - 1 < 2 ^ (2 * s) := by
        have : 2 ^ s ≤ 2 ^ (2 * s) := Nat.pow_le_pow_right (by decide) (by omega)
        omega
      rw [e1, mk, sq_pow, and_split _ _ _ _ _ hab hms, hi, Nat.and_two_pow_sub_one_eq_mod, Nat.add_mul_mod_self_left, Nat.mod_eq_of_lt hb]
      rfl

theorem parts_sum (D : Nat) : ∀ n (l : List Nat), l.length = 2 * n → evl D (odds l) + evl D (evens l) = evl D (sums l) := by
  intro n
  refine twos ?_ ?_ n
  · rfl
  · intro a b l h
    simp only [odds, evens, sums, evl, ← h, Nat.mul_add]
    omega

theorem parts_whole (B : Nat) : ∀ n (l : List Nat), l.length = 2 * n → evl (B * B) (evens l) + B * evl (B * B) (odds l) = evl B l := by
  intro n
  refine twos ?_ ?_ n
  · rfl
  · intro a b l h
    simp only [odds, evens, evl, ← h, Nat.mul_add, Nat.mul_assoc]
    omega

/-- One step of the count, with both masks. -/
theorem step_both (s n : Nat) (l : List Nat) (hl : l.length = 2 * n) (hd : ∀ d ∈ l, d < 2 ^ s) :
    ((evl (2 ^ s) l / 2 ^ s) &&& mk (2 ^ s) n) + (evl (2 ^ s) l &&& mk (2 ^ s) n) = evl (2 ^ (2 * s)) (sums l) := by
  rw [lo_mask s n l hl hd, hi_mask s n l hl hd, parts_sum _ n l hl]

/-- The first step as a difference. -/
theorem step_sub (n : Nat) (l : List Nat) (hl : l.length = 2 * n) (hd : ∀ d ∈ l, d < 2) :
    evl 2 l - ((evl 2 l / 2) &&& mk 2 n) = evl 4 (sums l) := by
  have h1 := hi_mask 1 n l hl (by simpa using hd)
  have h2 := parts_whole 2 n l hl
  have h3 := parts_sum 4 n l hl
  simp only [Nat.pow_one, Nat.mul_one, show (2 : Nat) ^ 2 = 4 from rfl] at h1
  simp only [show (2 : Nat) * 2 = 4 from rfl] at h2
  rw [h1]
  omega

theorem head_small (s b : Nat) (l : List Nat) (hb : b < 2 ^ s) (hd : ∀ d ∈ l, d < b) (hb0 : 0 < b) : evl (2 ^ s) l % 2 ^ s < b := by
  cases l with
  | nil => simp [evl]; exact hb0
  | cons a l =>
    rw [evl, Nat.add_mul_mod_self_left, Nat.mod_eq_of_lt (by have := hd a (by simp); omega)]
    exact hd a (by simp)

/-- A step with one mask behind the sum: the digits are small. -/
theorem step_one (s h : Nat) (hh : 2 * h ≤ 2 ^ s) (hp : 0 < h) : ∀ n (l : List Nat), l.length = 2 * n → (∀ d ∈ l, d < h) →
    (evl (2 ^ s) l + evl (2 ^ s) l / 2 ^ s) &&& mk (2 ^ s) n = evl (2 ^ (2 * s)) (sums l) := by
  intro n
  induction n with
  | zero => intro l h _; have : l = [] := List.length_eq_zero_iff.1 (by omega); subst this; simp [evl, mk, sums]
  | succ n ih =>
    intro l hl hd
    match l, hl, hd with
    | a :: b :: l, hl, hd =>
      have ha := hd a (by simp)
      have hb := hd b (by simp)
      have hi := ih l (by simp at hl; omega) (fun d h => hd d (by simp [h]))
      have hq := head_small s h l (by omega) (fun d h => hd d (by simp [h])) hp
      have hs := Nat.two_pow_pos s
      have e1 : evl (2 ^ s) (a :: b :: l) + evl (2 ^ s) (a :: b :: l) / 2 ^ s = ((a + b) + 2 ^ s * (b + evl (2 ^ s) l % 2 ^ s)) + 2 ^ (2 * s) * (evl (2 ^ s) l + evl (2 ^ s) l / 2 ^ s) := by
        have e2 : evl (2 ^ s) (a :: b :: l) = a + 2 ^ s * (b + 2 ^ s * evl (2 ^ s) l) := rfl
        rw [e2, Nat.add_mul_div_left _ _ hs, Nat.div_eq_of_lt (show a < 2 ^ s by omega), ← sq_pow]
        have := Nat.div_add_mod (evl (2 ^ s) l) (2 ^ s)
        have h3 : 2 ^ s * (2 ^ s * (evl (2 ^ s) l / 2 ^ s) + evl (2 ^ s) l % 2 ^ s) = 2 ^ s * evl (2 ^ s) l := by rw [this]
        simp only [Nat.mul_add, Nat.mul_assoc] at h3 ⊢
        omega
      have hab : (a + b) + 2 ^ s * (b + evl (2 ^ s) l % 2 ^ s) < 2 ^ (2 * s) := by
        rw [← sq_pow]
        have : 2 ^ s * (b + evl (2 ^ s) l % 2 ^ s) ≤ 2 ^ s * (2 ^ s - 1) := Nat.mul_le_mul_left _ (by omega)
        rw [Nat.mul_sub, Nat.mul_one] at this
        have : 2 ^ s ≤ 2 ^ s * 2 ^ s := Nat.le_mul_of_pos_left _ hs
        omega
      have hms : 2 ^ s - 1 < 2 ^ (2 * s) := by
        have : 2 ^ s ≤ 2 ^ (2 * s) := Nat.pow_le_pow_right (by decide) (by omega)
        omega
      rw [e1, mk, sq_pow, and_split _ _ _ _ _ hab hms, hi, Nat.and_two_pow_sub_one_eq_mod, Nat.add_mul_mod_self_left, Nat.mod_eq_of_lt (by omega)]
      rfl

theorem sums_sum : ∀ n (l : List Nat), l.length = 2 * n → (sums l).sum = l.sum := by
  intro n
  refine twos (P := fun l => (sums l).sum = l.sum) rfl ?_ n
  intro a b l h
  simp [sums, h]; omega
theorem sums_len : ∀ n (l : List Nat), l.length = 2 * n → (sums l).length = n := by
  intro n
  induction n with
  | zero => intro l h; have : l = [] := List.length_eq_zero_iff.1 (by omega); subst this; rfl
  | succ n ih =>
    intro l h
    match l, h with
    | a :: b :: l, h => simp [sums, ih l (by simp at h; omega)]
theorem sums_le (m : Nat) : ∀ n (l : List Nat), l.length = 2 * n → (∀ d ∈ l, d ≤ m) → ∀ d ∈ sums l, d ≤ 2 * m := by
  intro n
  refine twos (by simp [sums]) ?_ n
  intro a b l h hd d hm
  rw [sums, List.mem_cons] at hm
  rcases hm with hm | hm
  · have := hd a (by simp); have := hd b (by simp); omega
  · exact h (fun d h => hd d (by simp [h])) d hm

/-- The sums of eights: eight bytes, or four. -/
theorem bytes_of (b : Nat) (n : Nat) : ∃ l : List Nat, (sums (sums (sums (bl (8 * n) b)))) = l ∧ l.length = n ∧ (∀ d ∈ l, d ≤ 8) ∧ l.sum = pc (8 * n) b := by
  have h0 := bl_len (8 * n) b
  have l1 := sums_len (4 * n) (bl (8 * n) b) (by omega)
  have l2 := sums_len (2 * n) _ (by rw [l1]; omega)
  have l3 := sums_len n _ l2
  refine ⟨_, rfl, l3, ?_, ?_⟩
  · have h1 := bl_le (8 * n) b
    have h2 := sums_le 1 (4 * n) _ (by omega) h1
    have h3 := sums_le 2 (2 * n) _ (by rw [l1]; omega) h2
    exact sums_le 4 n _ l2 h3
  · rw [sums_sum n _ l2, sums_sum (2 * n) _ (by rw [l1]; omega), sums_sum (4 * n) _ (by omega), pc]

/-- The count by neighbours, up to its bytes; of numbers of 8 n bits. -/
theorem to_bytes (n b : Nat) (hb : b < 2 ^ (8 * n)) :
    ((((b - ((b / 2) &&& mk 2 (4 * n))) / 4) &&& mk 4 (2 * n)) + ((b - ((b / 2) &&& mk 2 (4 * n))) &&& mk 4 (2 * n))) = evl 16 (sums (sums (bl (8 * n) b))) := by
  have hd : ∀ d ∈ bl (8 * n) b, d < 2 := fun d h => by have := bl_le (8 * n) b d h; omega
  have hl := bl_len (8 * n) b
  have h1 := step_sub (4 * n) (bl (8 * n) b) (by omega) hd
  rw [bl_ev, Nat.mod_eq_of_lt hb] at h1
  rw [h1]
  have l1 := sums_len (4 * n) (bl (8 * n) b) (by omega)
  exact step_both 2 (2 * n) _ (by rw [l1]; omega) (fun d h => by have := sums_le 1 (4 * n) _ (by omega) (bl_le (8 * n) b) d h; omega)

theorem to_bytes3 (n b : Nat) :
    (evl 16 (sums (sums (bl (8 * n) b))) + evl 16 (sums (sums (bl (8 * n) b))) / 16) &&& mk 16 n = evl 256 (sums (sums (sums (bl (8 * n) b)))) := by
  have l1 := sums_len (4 * n) (bl (8 * n) b) (by rw [bl_len]; omega)
  have l2 := sums_len (2 * n) _ (show (sums (bl (8 * n) b)).length = 2 * (2 * n) by rw [l1]; omega)
  have h1 := sums_le 1 (4 * n) _ (by rw [bl_len]; omega) (bl_le (8 * n) b)
  exact step_one 4 5 (by decide) (by decide) n _ l2 (fun d h => by have := sums_le 2 (2 * n) _ (by rw [l1]; omega) h1 d h; omega)

theorem top_byte (x low s q m t : Nat) (e : x = (low + t * s) + m * q) (hl : low < t) (hs : low + t * s < m) (ht : 0 < t) : x % m / t = s := by
  rw [e, Nat.add_mul_mod_self_left, Nat.mod_eq_of_lt hs, Nat.add_mul_div_left _ _ ht, Nat.div_eq_of_lt hl, Nat.zero_add]

theorem top8 (p3 c0 c1 c2 c3 c4 c5 c6 c7 : Nat) (g0 : c0 ≤ 8) (g1 : c1 ≤ 8) (g2 : c2 ≤ 8) (g3 : c3 ≤ 8) (g4 : c4 ≤ 8) (g5 : c5 ≤ 8) (g6 : c6 ≤ 8) (g7 : c7 ≤ 8) (h : p3 = c0 + 256 * (c1 + 256 * (c2 + 256 * (c3 + 256 * (c4 + 256 * (c5 + 256 * (c6 + 256 * (c7 + 256 * 0)))))))) :
    p3 * 72340172838076673 % 18446744073709551616 / 72057594037927936 = c0 + c1 + c2 + c3 + c4 + c5 + c6 + c7 := by
  refine top_byte _ (1 * (c0) + 256 * (c0 + c1) + 65536 * (c0 + c1 + c2) + 16777216 * (c0 + c1 + c2 + c3) + 4294967296 * (c0 + c1 + c2 + c3 + c4) + 1099511627776 * (c0 + c1 + c2 + c3 + c4 + c5) + 281474976710656 * (c0 + c1 + c2 + c3 + c4 + c5 + c6)) _ (1 * (c1 + c2 + c3 + c4 + c5 + c6 + c7) + 256 * (c2 + c3 + c4 + c5 + c6 + c7) + 65536 * (c3 + c4 + c5 + c6 + c7) + 16777216 * (c4 + c5 + c6 + c7) + 4294967296 * (c5 + c6 + c7) + 1099511627776 * (c6 + c7) + 281474976710656 * (c7)) _ _ ?_ ?_ ?_ (by decide) <;> omega
theorem top4 (p3 c0 c1 c2 c3 : Nat) (g0 : c0 ≤ 8) (g1 : c1 ≤ 8) (g2 : c2 ≤ 8) (g3 : c3 ≤ 8) (h : p3 = c0 + 256 * (c1 + 256 * (c2 + 256 * (c3 + 256 * 0)))) :
    p3 * 16843009 % 4294967296 / 16777216 = c0 + c1 + c2 + c3 := by
  refine top_byte _ (1 * (c0) + 256 * (c0 + c1) + 65536 * (c0 + c1 + c2)) _ (1 * (c1 + c2 + c3) + 256 * (c2 + c3) + 65536 * (c3)) _ _ ?_ ?_ ?_ (by decide) <;> omega

theorem pop64_nat (b : Nat) (hb : b < 18446744073709551616) (p1 p2 p3 : Nat) (h1 : p1 = b - ((b / 2) &&& 6148914691236517205)) (h2 : p2 = ((p1 / 4) &&& 3689348814741910323) + (p1 &&& 3689348814741910323))
    (h3 : p3 = (p2 + p2 / 16) &&& 1085102592571150095) :
    p1 < 18446744073709551616 ∧ p2 < 18446744073709551616 ∧ p2 + p2 / 16 < 18446744073709551616 ∧ p3 < 18446744073709551616 ∧
      p3 * 72340172838076673 % 18446744073709551616 / 72057594037927936 = pc 64 b ∧ pc 64 b ≤ 64 := by
  have e1 : mk 2 32 = 6148914691236517205 := by decide
  have e2 : mk 4 16 = 3689348814741910323 := by decide
  have e3 : mk 16 8 = 1085102592571150095 := by decide
  have t := to_bytes 8 b hb
  rw [e1, e2, ← h1, ← h2] at t
  have t3 := to_bytes3 8 b
  rw [e3, ← t, ← h3] at t3
  have hp1 : p1 ≤ b := by rw [h1]; exact Nat.sub_le _ _
  have hp2 : p2 ≤ 3689348814741910323 + 3689348814741910323 := by rw [h2]; exact Nat.add_le_add Nat.and_le_right Nat.and_le_right
  have hp3 : p3 ≤ 1085102592571150095 := by rw [h3]; exact Nat.and_le_right
  clear h1 h2 h3
  obtain ⟨l, hl, hlen, hle, hsum⟩ := bytes_of b 8
  rw [hl] at t3
  match l, hlen with
  | [c0, c1, c2, c3, c4, c5, c6, c7], _ =>
    have g0 := hle c0 (by simp)
    have g1 := hle c1 (by simp)
    have g2 := hle c2 (by simp)
    have g3 := hle c3 (by simp)
    have g4 := hle c4 (by simp)
    have g5 := hle c5 (by simp)
    have g6 := hle c6 (by simp)
    have g7 := hle c7 (by simp)
    simp only [evl] at t3
    simp only [List.sum_cons, List.sum_nil] at hsum
    rw [show 8 * 8 = 64 from rfl] at hsum
    refine ⟨by omega, by omega, by omega, by omega, ?_, by omega⟩
    rw [← hsum]
    exact (top8 p3 c0 c1 c2 c3 c4 c5 c6 c7 g0 g1 g2 g3 g4 g5 g6 g7 t3).trans (by simp only [Nat.add_assoc, Nat.add_zero])

theorem pop32_nat (b : Nat) (hb : b < 4294967296) (p1 p2 p3 : Nat) (h1 : p1 = b - ((b / 2) &&& 1431655765)) (h2 : p2 = ((p1 / 4) &&& 858993459) + (p1 &&& 858993459))
    (h3 : p3 = (p2 + p2 / 16) &&& 252645135) :
    p1 < 4294967296 ∧ p2 < 4294967296 ∧ p2 + p2 / 16 < 4294967296 ∧ p3 < 4294967296 ∧
      p3 * 16843009 % 4294967296 / 16777216 = pc 32 b ∧ pc 32 b ≤ 32 := by
  have e1 : mk 2 16 = 1431655765 := by decide
  have e2 : mk 4 8 = 858993459 := by decide
  have e3 : mk 16 4 = 252645135 := by decide
  have t := to_bytes 4 b hb
  rw [e1, e2, ← h1, ← h2] at t
  have t3 := to_bytes3 4 b
  rw [e3, ← t, ← h3] at t3
  have hp1 : p1 ≤ b := by rw [h1]; exact Nat.sub_le _ _
  have hp2 : p2 ≤ 858993459 + 858993459 := by rw [h2]; exact Nat.add_le_add Nat.and_le_right Nat.and_le_right
  have hp3 : p3 ≤ 252645135 := by rw [h3]; exact Nat.and_le_right
  clear h1 h2 h3
  obtain ⟨l, hl, hlen, hle, hsum⟩ := bytes_of b 4
  rw [hl] at t3
  match l, hlen with
  | [c0, c1, c2, c3], _ =>
    have g0 := hle c0 (by simp)
    have g1 := hle c1 (by simp)
    have g2 := hle c2 (by simp)
    have g3 := hle c3 (by simp)
    simp only [evl] at t3
    simp only [List.sum_cons, List.sum_nil] at hsum
    rw [show 8 * 4 = 32 from rfl] at hsum
    refine ⟨by omega, by omega, by omega, by omega, ?_, by omega⟩
    rw [← hsum]
    exact (top4 p3 c0 c1 c2 c3 g0 g1 g2 g3 t3).trans (by simp only [Nat.add_assoc, Nat.add_zero])

end Go.Proofs.Ytbkodehcjhpcmaa.Pop
