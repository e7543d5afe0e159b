/- The highest bit of a word and of a bitset. -/
import Derived.Test.YtpmnpaannbhoeaaBsP
import Derived.Lib.BitFns
import Derived.Test.YtpmnpaannbhoeaaShelf
namespace Go.Proofs.Ytpmnpaannbhoeaa
open Go.RowKit Pop

theorem bitLen_top : ∀ (g x : Nat), x < 2 ^ g → x ≠ 0 → ∃ r, Lib.bitLenAux g x = r + 1 ∧ 2 ^ r ≤ x ∧ x < 2 ^ (r + 1)
  | 0, x, h, h0 => by simp at h; omega
  | g + 1, x, h, h0 => by
    rw [Lib.bitLenAux, if_neg h0]
    by_cases h1 : x / 2 = 0
    · refine ⟨0, ?_, by simp; omega, by simp; omega⟩
      rw [h1]
      cases g <;> simp [Lib.bitLenAux]
    · obtain ⟨r, e, l1, l2⟩ := bitLen_top g (x / 2) (by rw [Nat.pow_succ] at h; omega) h1
      exact ⟨r + 1, by rw [e]; omega, by rw [Nat.pow_succ]; omega, by rw [Nat.pow_succ]; omega⟩
theorem bitLen_is {x : Nat} (hx : x < 18446744073709551616) (h0 : x ≠ 0) : ∃ r, Lib.bitLen x = r + 1 ∧ r < 64 ∧ x.testBit r = true ∧ ∀ j, r < j → x.testBit j = false := by
  obtain ⟨r, e, l1, l2⟩ := bitLen_top 64 x hx h0
  refine ⟨r, e, ?_, ?_, fun j hj => Nat.testBit_lt_two_pow (Nat.lt_of_lt_of_le l2 (Nat.pow_le_pow_right (by decide) hj))⟩
  · rcases Nat.lt_or_ge r 64 with h | h
    · exact h
    · have : 2 ^ 64 ≤ 2 ^ r := Nat.pow_le_pow_right (by decide) h
      omega
  · rw [Nat.testBit_eq_decide_div_mod_eq]
    have h2 := Nat.two_pow_pos r
    have h3 : x / 2 ^ r = 1 := by
      rw [Nat.pow_succ] at l2
      exact Nat.le_antisymm (Nat.le_of_lt_succ ((Nat.div_lt_iff_lt_mul h2).2 (by omega))) ((Nat.le_div_iff_mul_le h2).2 (by omega))
    rw [h3]; rfl

theorem retTB {a b : Int} {c : Bool} (h : a = b) : Ending.returned (.tuple #[.int .u64 a, .bool c]) = .returned (.tuple #[.int .u64 b, .bool c]) := by rw [h]
theorem len64_any (x : Nat) (w : World) (hx : x < 18446744073709551616) :
    Calls Try.prog 95 #[.int .u64 x] w fun e w' => e = .returned (.int .i64 (Lib.bitLen x : Nat)) ∧ w = w' :=
  (Try.bits_Len64 (x : Int) w (by omega) (by omega)).mono fun _ _ ⟨he, hw⟩ => ⟨he, hw.symm⟩

/-- The highest bit. -/
def Top (f : Nat → Nat) (n t : Nat) : Prop := t < 64 * n ∧ bit f t = true ∧ ∀ j, t < j → j < 64 * n → bit f j = false
theorem zero_bits {f : Nat → Nat} {n k : Nat} (h : ∀ i, k ≤ i → i < n → f i = 0) : ∀ j, 64 * k ≤ j → j < 64 * n → bit f j = false := by
  intro j h1 h2
  unfold bit
  rw [h (j / 64) (by omega) (by omega), Nat.zero_testBit]
theorem top_of {f : Nat → Nat} {n k r : Nat} (hk : k < n) (hr : r < 64) (h1 : (f k).testBit r = true) (h2 : ∀ j, r < j → (f k).testBit j = false) (h : ∀ i, k + 1 ≤ i → i < n → f i = 0) : Top f n (64 * k + r) := by
  refine ⟨by omega, ?_, fun j h3 h4 => ?_⟩
  · unfold bit
    rw [show (64 * k + r) / 64 = k by omega, show (64 * k + r) % 64 = r by omega]; exact h1
  · by_cases e : j / 64 = k
    · unfold bit
      rw [e]; exact h2 _ (by omega)
    · exact zero_bits h j (by omega) h4

set_option maxHeartbeats 1000000 in
theorem top_any {w : World} {p b n c len : Nat} {f : Nat → Nat} (h : BSet w p b n c len f) (hl : len ≤ 1000000) :
    Calls Try.prog 88 #[.pointer (some ⟨p, 0, none⟩)] w fun e w' => ((∃ t : Nat, Top f n t ∧ e = .returned (.tuple #[.int .u64 t, .bool true])) ∨ ((∀ i, i < n → f i = 0) ∧ e = .returned (.tuple #[.int .u64 0, .bool false]))) ∧ w = w' := by
  have x1 := h.set_cell
  have hn : n ≤ 20000 := by rw [h.n_eq]; unfold wn; omega
  have H := Lib.hid h
  clear h
  go_enter Try.func88, Try.ntmps88
  go_wp2_with fail
  go_loop [4] (fun iv => ∃ (k : Nat) (q : Int), q = (k : Int) - 1 ∧ k ≤ n ∧ iv = .int .i64 q ∧ Hid (∀ i, k ≤ i → i < n → f i = 0)) (fun iv => (intOf iv + 1).toNat)
  case atStart => exact ⟨n, _, rfl, Nat.le_refl _, by rfl, fun i h1 h2 => by omega⟩
  case round =>
    obtain ⟨k, q, hq, hk, rfl, hZ⟩ := hrel
    have HZ : Hid (∀ i, k ≤ i → i < n → f i = 0) := hZ
    clear hZ
    by_cases hk0 : k = 0
    · have hq0 : decide ((0 : Int) ≤ q) = false := decide_eq_false (by omega)
      have HK := Lib.hid hk0
      clear hq hk0
      go_wp2_with fail
      go_ret2
      exact ⟨Or.inr ⟨fun i hi => HZ.out i (by rw [HK.out]; omega) hi, rfl⟩, rfl⟩
    · obtain ⟨k', hk'⟩ : ∃ k', k = k' + 1 := ⟨k - 1, by omega⟩
      obtain rfl : q = (k' : Int) := by omega
      have hkn : k' < n := by omega
      have c1 := H.out.word hkn
      have HZ2 : Hid (∀ i, k' + 1 ≤ i → i < n → f i = 0) := by rw [← hk']; exact HZ.out
      have HK := Lib.hid hk'
      clear hq hk' hk0 HZ hk
      by_cases hf : f k' = 0
      · have hf2 : (((f k' : Nat) : Int) != 0) = false := by rw [hf]; rfl
        have HF := Lib.hid hf
        clear hf
        go_wp2_with fail
        go_round
        case rel =>
          refine ⟨k', _, rfl, by omega, rfl, fun i h1 h2 => ?_⟩
          rcases Nat.eq_or_lt_of_le h1 with e | e
          · rw [← e, HF.out]
          · exact HZ2.out i e h2
        case measure => simp [intOf]
      · have hf2 : (((f k' : Nat) : Int) != 0) = true := by simp; exact hf
        obtain ⟨r, e1, e2, e3, e4⟩ := bitLen_is (H.out.small k') hf
        have HT := Lib.hid (top_of hkn e2 e3 e4 HZ2.out)
        have hlen := fun w => len64_any (f k') w (H.out.small k')
        rw [e1] at hlen
        have HL := Lib.hid hlen
        clear hlen e1 e3 e4 hf
        go_wp2_with fail
        refine (HL.out _).mono ?_; rintro e w' ⟨rfl, rfl⟩
        go_wp2_with fail
        go_ret2
        exact ⟨Or.inl ⟨_, HT.out, retTB (by omega)⟩, rfl⟩
end Go.Proofs.Ytpmnpaannbhoeaa
