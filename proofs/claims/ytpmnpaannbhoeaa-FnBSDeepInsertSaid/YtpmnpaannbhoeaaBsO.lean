/- DeleteAt. -/
import Derived.Test.YtpmnpaannbhoeaaBsN
import Derived.Test.YtpmnpaannbhoeaaBsM
namespace Go.Proofs.Ytpmnpaannbhoeaa
open Go.RowKit Pop

/-- A word one place nearer, with the first bit of the word behind. -/
def delW (f : Nat → Nat) (q : Nat) : Nat := f q / 2 ||| (f (q + 1) % 2) * 9223372036854775808
/-- The word of the place itself, without what comes from behind. -/
def delK (x s : Nat) : Nat := (x &&& mLow s) ||| (((x &&& mHigh s) / 2) &&& mHigh s)
/-- After the words up to i. -/
def dlt (f : Nat → Nat) (k s i : Nat) : Nat → Nat := fun q => if q = k then delK (f k) s ||| (if k < i then (f (k + 1) % 2) * 9223372036854775808 else 0) else if k < q ∧ q < i then delW f q else if k < q ∧ q = i then f q / 2 else f q
theorem half_tb (x t : Nat) : (x / 2).testBit t = x.testBit (t + 1) := by
  rw [show x / 2 = x >>> 1 by rw [Nat.shiftRight_eq_div_pow], Nat.testBit_shiftRight, Nat.add_comm]
theorem low63_tb (x : Nat) {t : Nat} : ((x % 2) * 9223372036854775808).testBit t = (decide (t = 63) && x.testBit 0) := by
  rcases Nat.mod_two_eq_zero_or_one x with h | h
  · rw [h, Nat.zero_mul, Nat.zero_testBit, show x.testBit 0 = false by rw [Nat.testBit_zero]; simp; omega, Bool.and_false]
  · rw [h, Nat.one_mul, show (9223372036854775808 : Nat) = 2 ^ 63 from rfl, Nat.testBit_two_pow, show x.testBit 0 = true by rw [Nat.testBit_zero]; simp; omega, Bool.and_true]
    exact decide_eq_decide.2 (by omega)
theorem low63_lt (x : Nat) : (x % 2) * 9223372036854775808 < 18446744073709551616 := by omega
theorem not_low {s : Nat} (hs : s < 64) : mHigh s = 18446744073709551615 ^^^ mLow s := word_eq (mHigh_lt s) (Nat.xor_lt_two_pow (n := 64) (by decide) (mLow_lt hs)) fun j hj => by
  rw [Nat.testBit_xor, ones_tb j hj, mHigh_tb hs hj, mLow_tb]
  by_cases h : s ≤ j
  · rw [decide_eq_true h, decide_eq_false (by omega)]; rfl
  · rw [decide_eq_false h, decide_eq_true (by omega)]; rfl
theorem delK_lt (x s : Nat) (hs : s < 64) : delK x s < 18446744073709551616 := or64 (and64r (mLow_lt hs)) (and64r (mHigh_lt s))
theorem delW_lt {f : Nat → Nat} (h : ∀ i, f i < 18446744073709551616) (q : Nat) : delW f q < 18446744073709551616 := or64 (by have := h q; omega) (low63_lt _)
theorem dlt_lt {f : Nat → Nat} (h : ∀ i, f i < 18446744073709551616) {s : Nat} (hs : s < 64) (k i q : Nat) : dlt f k s i q < 18446744073709551616 := by
  unfold dlt
  split
  · refine or64 (delK_lt _ _ hs) ?_
    split
    · exact low63_lt _
    · decide
  · split
    · exact delW_lt h q
    · split
      · have := h q; omega
      · exact h q
theorem delK_tb {x s t : Nat} (hx : x < 18446744073709551616) (hs : s < 64) (ht : t < 64) : (delK x s).testBit t = ((decide (t < s) && x.testBit t) || (decide (s ≤ t) && (decide (t < 63) && x.testBit (t + 1)))) := by
  unfold delK
  rw [Nat.testBit_or, Nat.testBit_and, Nat.testBit_and, half_tb, mLow_tb, mHigh_tb hs ht, Nat.testBit_and]
  by_cases h1 : t < 63
  · rw [mHigh_tb hs (show t + 1 < 64 by omega), decide_eq_true h1]
    by_cases h : t < s
    · rw [decide_eq_true h, decide_eq_false (show ¬ s ≤ t by omega)]; simp
    · rw [decide_eq_false h, decide_eq_true (show s ≤ t by omega), decide_eq_true (show s ≤ t + 1 by omega)]; simp
  · rw [decide_eq_false h1, Nat.testBit_lt_two_pow (show x < 2 ^ (t + 1) from Nat.lt_of_lt_of_le hx (Nat.pow_le_pow_right (n := 2) (i := 64) (by decide) (by omega)))]
    by_cases h : t < s
    · rw [decide_eq_true h]; simp
    · rw [decide_eq_false h]; simp
theorem delW_tb {f : Nat → Nat} (h : ∀ i, f i < 18446744073709551616) {q t : Nat} (ht : t < 64) : (delW f q).testBit t = bit f (64 * q + t + 1) := by
  unfold delW bit
  rw [Nat.testBit_or, half_tb, low63_tb]
  by_cases h1 : t = 63
  · subst h1
    rw [show (64 * q + 63 + 1) / 64 = q + 1 by omega, show (64 * q + 63 + 1) % 64 = 0 by omega, Nat.testBit_lt_two_pow (show f q < 2 ^ (63 + 1) from h q)]
    simp
  · rw [show (64 * q + t + 1) / 64 = q by omega, show (64 * q + t + 1) % 64 = t + 1 by omega, decide_eq_false h1]
    simp
/-- All bits, if the words go up to m. -/
theorem dlt_bit {f : Nat → Nat} (h : ∀ i, f i < 18446744073709551616) {k s m : Nat} (hs : s < 64) (hkm : k < m) {j : Nat} (hj : j < 64 * m) :
    bit (dlt f k s (m - 1)) j = ((decide (j < 64 * k + s) && bit f j) || (decide (64 * k + s ≤ j) && (decide (j + 1 < 64 * m) && bit f (j + 1)))) := by
  have hm := Nat.mod_lt j (show 0 < 64 by decide)
  by_cases h0 : j / 64 = k
  · have e : bit (dlt f k s (m - 1)) j = ((delK (f k) s).testBit (j % 64) || ((if k < m - 1 then (f (k + 1) % 2) * 9223372036854775808 else 0 : Nat)).testBit (j % 64)) := by
      unfold bit dlt
      rw [h0, if_pos rfl, Nat.testBit_or]
    rw [e, delK_tb (h _) hs hm]
    by_cases h1 : j < 64 * k + s
    · rw [decide_eq_true h1, decide_eq_true (show j % 64 < s by omega), decide_eq_false (show ¬ s ≤ j % 64 by omega), decide_eq_false (show ¬ 64 * k + s ≤ j by omega)]
      have e2 : ((if k < m - 1 then (f (k + 1) % 2) * 9223372036854775808 else 0 : Nat)).testBit (j % 64) = false := by
        split
        · rw [low63_tb, decide_eq_false (show ¬ j % 64 = 63 by omega), Bool.false_and]
        · exact Nat.zero_testBit _
      rw [e2]
      unfold bit
      rw [h0]; simp
    · rw [decide_eq_false h1, decide_eq_false (show ¬ j % 64 < s by omega), decide_eq_true (show s ≤ j % 64 by omega), decide_eq_true (show 64 * k + s ≤ j by omega)]
      by_cases h2 : j % 64 = 63
      · rw [h2, decide_eq_false (show ¬ 63 < 63 by omega)]
        by_cases h3 : k < m - 1
        · rw [if_pos h3, low63_tb, decide_eq_true rfl, decide_eq_true (show j + 1 < 64 * m by omega)]
          unfold bit
          rw [show (j + 1) / 64 = k + 1 by omega, show (j + 1) % 64 = 0 by omega]; simp
        · rw [if_neg h3, Nat.zero_testBit, decide_eq_false (show ¬ j + 1 < 64 * m by omega)]; simp
      · have e2 : ((if k < m - 1 then (f (k + 1) % 2) * 9223372036854775808 else 0 : Nat)).testBit (j % 64) = false := by
          split
          · rw [low63_tb, decide_eq_false h2, Bool.false_and]
          · exact Nat.zero_testBit _
        rw [e2, decide_eq_true (show j % 64 < 63 by omega), decide_eq_true (show j + 1 < 64 * m by omega)]
        unfold bit
        rw [show (j + 1) / 64 = k by omega, show (j + 1) % 64 = j % 64 + 1 by omega]; simp
  · by_cases h1 : k < j / 64
    · rw [decide_eq_false (show ¬ j < 64 * k + s by omega), decide_eq_true (show 64 * k + s ≤ j by omega)]
      by_cases h2 : j / 64 < m - 1
      · have e : bit (dlt f k s (m - 1)) j = (delW f (j / 64)).testBit (j % 64) := by
          unfold bit dlt
          rw [if_neg h0, if_pos ⟨h1, h2⟩]
        rw [e, delW_tb h hm, show 64 * (j / 64) + j % 64 + 1 = j + 1 by omega, decide_eq_true (show j + 1 < 64 * m by omega)]
        simp
      · have e : bit (dlt f k s (m - 1)) j = (f (j / 64)).testBit (j % 64 + 1) := by
          unfold bit dlt
          rw [if_neg h0, if_neg (by omega), if_pos (by omega), half_tb]
        rw [e]
        by_cases h3 : j % 64 = 63
        · rw [decide_eq_false (show ¬ j + 1 < 64 * m by omega), h3, Nat.testBit_lt_two_pow (show f (j / 64) < 2 ^ (63 + 1) from h _)]; simp
        · rw [decide_eq_true (show j + 1 < 64 * m by omega)]
          unfold bit
          rw [show (j + 1) / 64 = j / 64 by omega, show (j + 1) % 64 = j % 64 + 1 by omega]; simp
    · have e : bit (dlt f k s (m - 1)) j = bit f j := by
        unfold bit dlt
        rw [if_neg h0, if_neg (by omega), if_neg (by omega)]
      rw [e, decide_eq_true (show j < 64 * k + s by omega), decide_eq_false (show ¬ 64 * k + s ≤ j by omega)]
      simp
theorem dlt_start (f : Nat → Nat) (k s : Nat) : upd f k (delK (f k) s) = dlt f k s k := by
  funext q
  unfold upd dlt
  by_cases h : q = k
  · rw [if_pos h, if_pos h, if_neg (by omega), Nat.or_zero]
  · rw [if_neg h, if_neg h, if_neg (by omega), if_neg (by omega)]
/-- The two stores of a round. -/
theorem dlt_next (f : Nat → Nat) {k i : Nat} (s : Nat) (h : k ≤ i) :
    upd (upd (dlt f k s i) i (dlt f k s i i ||| (f (i + 1) % 2) * 9223372036854775808)) (i + 1) (f (i + 1) / 2) = dlt f k s (i + 1) := by
  funext q
  by_cases h1 : q = i + 1
  · subst h1
    rw [upd_same]
    unfold dlt
    rw [if_neg (by omega), if_neg (by omega), if_pos (by omega)]
  · rw [upd_other _ _ _ _ h1]
    by_cases h2 : q = i
    · subst h2
      rw [upd_same]
      unfold dlt
      by_cases h3 : q = k
      · subst h3
        rw [if_pos rfl, if_neg (by omega), Nat.or_zero, if_pos rfl, if_pos (by omega)]
      · rw [if_neg h3, if_neg (by omega), if_pos (by omega), if_neg h3, if_pos (by omega)]
        rfl
    · rw [upd_other _ _ _ _ h2]
      unfold dlt
      by_cases h3 : q = k
      · subst h3
        rw [if_pos rfl, if_pos rfl, if_pos (by omega), if_pos (by omega)]
      · rw [if_neg h3, if_neg h3]
        by_cases h4 : k < q ∧ q < i
        · rw [if_pos h4, if_pos (by omega)]
        · rw [if_neg h4, if_neg (by omega), if_neg (by omega), if_neg (by omega)]
theorem dlt_high (f : Nat → Nat) {k i q : Nat} (s : Nat) (hk : k ≤ i) (h : i < q) : dlt f k s i q = f q := by
  unfold dlt
  rw [if_neg (by omega), if_neg (by omega), if_neg (by omega)]

set_option maxHeartbeats 400000 in
theorem wordCount_len {w : World} {p len : Nat} (h0 : w.cell? ⟨p, 0, none⟩ = some (.int .u64 len)) (hl : len ≤ 1000000) :
    Calls Try.prog 91 #[.pointer (some ⟨p, 0, none⟩)] w fun e w' => e = .returned (.int .i64 (wn len : Int)) ∧ w = w' := by
  go_enter Try.func91, Try.ntmps91
  go_wp2_with fail
  refine (wnUnbound_any _ _ hl).mono ?_; rintro e w' ⟨rfl, rfl⟩
  go_wp2_with fail
  go_ret
  exact ⟨rfl, rfl⟩

set_option maxRecDepth 100000 in
set_option maxHeartbeats 1000000 in
theorem del_words {w : World} {p b n c len : Nat} {f : Nat → Nat} (h : BSet w p b n c len f) (idx k s : Nat) (hx : idx = 64 * k + s) (hs : s < 64) (hi : idx < len) (hl : len ≤ 99998) :
    Calls Try.prog 65 #[.pointer (some ⟨p, 0, none⟩), .int .u64 idx] w fun e' w' => e' = .returned (.pointer (some ⟨p, 0, none⟩)) ∧
      ∃ n2 g, BSet w' p b n2 c (len - 1) g ∧ (∀ j, j < len - 1 → bit g j = ((decide (j < idx) && bit f j) || (decide (idx ≤ j) && bit f (j + 1)))) ∧ Only [p, b] w w' := by
  have x0 := h.len_cell
  have x1 := h.set_cell
  have H := Lib.hid h
  have a1 : (idx : Int) / 64 = (k : Int) := by omega
  have hwx : ∀ w, Calls Try.prog 80 #[.int .u64 idx] w fun e' w' => e' = .returned (.int .u64 (s : Int)) ∧ w = w' := fun w => by
    have := wordsIndex_any idx w (by omega)
    rwa [show idx % 64 = s by omega] at this
  have HX := Lib.hid hx
  have hlt2 : decide (len ≤ idx) = false := decide_eq_false (by omega)
  have hk9 : k ≤ 99999 := by omega
  have hMl := mLow_lt hs
  have hMh := mHigh_lt s
  have hkn : k < n := by have := h.n_eq; unfold wn at this; omega
  have hn2 : n ≤ 20000 := by have := h.n_eq; unfold wn at this; omega
  have c1 := h.word hkn
  have c2 := h.wd.free k
  have q1 : ∀ v, (w.setCell ⟨b, k, none⟩ v).cell? ⟨p, 1, none⟩ = some (.slice (some ⟨b, 0, none⟩) n c) := fun v => by
    obtain ⟨T, hT⟩ := H.out.st
    exact (hT.other (fun e => H.out.ne e.symm) v).cell rfl
  have hsg : IntKind.u64.signed = false := rfl
  clear h hx
  go_enter Try.func65, Try.ntmps65
  go_wp2_with fail
  refine (hwx _).mono ?_; rintro e' w' ⟨rfl, rfl⟩
  go_wp2_with fail
  have HEm : Hid (bits BinOp.xor IntKind.u64 IntKind.u64.max (IntKind.u64.wrap (IntKind.u64.wrap (2 ^ s) - 1)) = (mHigh s : Int)) := Lib.hid (by
    rw [mLow_I hs, max64, u64_xor_nat _ _ (by decide) hMl, ← not_low hs])
  have HEn : Hid (bits BinOp.xor IntKind.u64 IntKind.u64.max (mHigh s : Int) = (mLow s : Int)) := Lib.hid (by
    rw [max64, u64_xor_nat _ _ (by decide) hMh, not_high hs])
  have HE1 : Hid (bits BinOp.and IntKind.u64 (f k : Int) (mLow s : Int) = ((f k &&& mLow s : Nat) : Int)) := Lib.hid (u64_and_nat _ _ (H.out.small k) hMl)
  have HE2 : Hid (bits BinOp.and IntKind.u64 (f k : Int) (mHigh s : Int) = ((f k &&& mHigh s : Nat) : Int)) := Lib.hid (u64_and_nat _ _ (H.out.small k) hMh)
  have HE3 : Hid (bits BinOp.or IntKind.u64 ((f k &&& mLow s : Nat) : Int) (bits BinOp.and IntKind.u64 (((f k &&& mHigh s : Nat) : Int) / 2) (mHigh s : Int)) = (delK (f k) s : Int)) := Lib.hid (by
    rw [show ((f k &&& mHigh s : Nat) : Int) / 2 = (((f k &&& mHigh s) / 2 : Nat) : Int) from (Int.natCast_ediv _ 2).symm, u64_and_nat _ _ (by have : f k &&& mHigh s < 18446744073709551616 := and64r hMh; omega) hMh, u64_or_nat _ _ (and64r hMl) (and64r hMh)]
    rfl)
  rw [HEm.out, HEn.out, HE1.out, HE2.out, HE3.out]
  have hst := (H.out.dirty.store k (f k &&& mLow s) (and64r hMl)).store k (delK (f k) s) (delK_lt _ _ hs)
  rw [show upd (upd f k (f k &&& mLow s)) k (delK (f k) s) = upd f k (delK (f k) s) from by funext q; unfold upd; by_cases e : q = k <;> simp [e], dlt_start] at hst
  have hon := ((Only.refl [b] w).setCell (p := ⟨b, k, none⟩) (Or.inl (by simp)) (.int .u64 ((f k &&& mLow s : Nat) : Int))).setCell (p := ⟨b, k, none⟩) (Or.inl (by simp)) (.int .u64 (delK (f k) s : Int))
  have HS := Lib.hid hst
  have HO1 := Lib.hid hon
  generalize (w.setCell ⟨b, k, none⟩ (.int .u64 ((f k &&& mLow s : Nat) : Int))).setCell ⟨b, k, none⟩ (.int .u64 (delK (f k) s : Int)) = w2 at *
  clear hst hon c1 c2 q1 x0 x1
  go_loopw [8] (fun iv wr => ∃ i q : Nat, q = i + 1 ∧ k ≤ i ∧ i < n ∧ iv = .int .i64 q ∧ Hid (BDirty wr p b n c len (dlt f k s i) ∧ Only [b] w wr)) (fun iv _ => n - (intOf iv).toNat)
  case atStart => exact ⟨k, k + 1, rfl, Nat.le_refl _, hkn, by go_num, HS.out, HO1.out⟩
  case round =>
    obtain ⟨i, q, hq, hki, hin, rfl, hR⟩ := hrel
    have HR : Hid (BDirty wr p b n c len (dlt f k s i) ∧ Only [b] w wr) := hR
    clear hR
    have hqi : (q : Int) - 1 = (i : Int) := by omega
    have d0 := HR.out.1.len_cell
    have d1 := HR.out.1.set_cell
    have hne : i ≠ q := by omega
    have HQ := Lib.hid hq
    clear hq
    by_cases hqn : q < n
    · have c1 := HR.out.1.word hin
      have c2 := HR.out.1.wd.free i
      have c3 := HR.out.1.word hqn
      have c4 := HR.out.1.wd.free q
      rw [dlt_high f s hki (show i < q by have := HQ.out; omega)] at c3
      obtain ⟨X, hX⟩ : ∃ X, X = dlt f k s i i := ⟨_, rfl⟩
      rw [← hX] at c1
      have hXl : X < 18446744073709551616 := by rw [hX]; exact HR.out.1.small i
      have HXX := Lib.hid hX
      clear hX
      have q1 : ∀ v, (wr.setCell ⟨b, i, none⟩ v).cell? ⟨p, 1, none⟩ = some (.slice (some ⟨b, 0, none⟩) n c) := fun v => by
        obtain ⟨T, hT⟩ := HR.out.1.st
        exact (hT.other (fun e => HR.out.1.ne e.symm) v).cell rfl
      have k6 : IntKind.i64.wrap (i : Int) = (i : Int) := IntWalk.i64_in _ (by omega)
      go_wp2_with fail
      have k0 : (0 : Int) ≤ (q : Int) := by omega
      have k1 : (q : Int) < (n : Int) := by omega
      have k2 : ((q : Int)).toNat = q := by omega
      have k3 : (0 : Int) ≤ (i : Int) := by omega
      have k4 : (i : Int) < (n : Int) := by omega
      have k5 : ((i : Int)).toNat = i := by omega
      refine wp_region_still_tail 19 (by kernel_rfl) (by kernel_rfl) ?_
      simp only [List.take_succ_cons, List.take_zero, List.drop_succ_cons, List.drop_zero]
      repeat still_step
      refine wpStill_nil ?_
      change wpList _ _ _ _ _ wr.drew
      clear k0 k1 k2 k3 k4 k5 k6
      have HE4 : Hid (bits BinOp.or IntKind.u64 (X : Int) (IntKind.u64.wrap (bits BinOp.and IntKind.u64 (f q : Int) 1 * 9223372036854775808)) = ((X ||| (f q % 2) * 9223372036854775808 : Nat) : Int)) := Lib.hid (by
        rw [show (1 : Int) = ((1 : Nat) : Int) from rfl, u64_and_nat _ _ (H.out.small q) (by decide), Nat.and_one_is_mod, show IntKind.u64.wrap (((f q % 2 : Nat) : Int) * 9223372036854775808) = (((f q % 2) * 9223372036854775808 : Nat) : Int) by rw [IntKind.wrap_u64]; omega, u64_or_nat _ _ hXl (low63_lt _)])
      have HE5 : Hid ((f q : Int) / 2 = ((f q / 2 : Nat) : Int)) := Lib.hid (Int.natCast_ediv _ 2).symm
      rw [HE4.out]
      go_wp2_with fail
      rw [HE5.out]
      go_roundw
      case rel =>
        refine ⟨q, q + 1, rfl, by have := HQ.out; omega, hqn, by go_num, BDirty.drewN (k := 1) ?_, ((HR.out.2.setCell (Or.inl (by simp)) _).setCell (Or.inl (by simp)) _).drewN 1⟩
        have h1 := (HR.out.1.store i (X ||| (f q % 2) * 9223372036854775808) (or64 hXl (low63_lt _))).store q (f q / 2) (by have := H.out.small q; omega)
        have h2 := dlt_next f s hki
        rw [← HXX.out, ← HQ.out] at h2
        rwa [h2] at h1
      case measure => simp [intOf]; omega
    · have hqe : i = n - 1 := by have := HQ.out; omega
      have HR2 : Hid (BDirty wr p b n c len (dlt f k s (n - 1)) ∧ Only [b] w wr) := by have := HR.out; rwa [hqe] at this
      have hqF : decide (q < n) = false := decide_eq_false hqn
      obtain ⟨l2, hl2⟩ : ∃ l2, l2 = len - 1 := ⟨_, rfl⟩
      have hl3 : (len : Int) - 1 = (l2 : Int) := by omega
      have hll : l2 + 1 = len := by omega
      obtain ⟨N2, hN2⟩ : ∃ N2, N2 = wn l2 := ⟨_, rfl⟩
      have e0 := HR2.out.1.free 0
      have e1 := HR2.out.1.free 1
      have HL2 := Lib.hid hl2
      have HLL := Lib.hid hll
      have HN2 := Lib.hid hN2
      have hN3 : N2 ≤ n := by have := H.out.n_eq; unfold wn at *; omega
      have hN4 : n ≤ N2 + 1 := by have := H.out.n_eq; unfold wn at *; omega
      have hnc : n ≤ c := H.out.nc
      have HWC : Hid (∀ W : World, W.cell? ⟨p, 0, none⟩ = some (.int .u64 l2) → Calls Try.prog 91 #[.pointer (some ⟨p, 0, none⟩)] W fun e w' => e = .returned (.int .i64 (N2 : Int)) ∧ W = w') := Lib.hid (fun W hW => by rw [hN2]; exact wordCount_len hW (by omega))
      obtain ⟨T, hT⟩ := HR2.out.1.st
      have HT := Lib.hid hT
      have q0 : (wr.setCell ⟨p, 0, none⟩ (.int .u64 l2)).cell? ⟨p, 0, none⟩ = some (.int .u64 l2) := (hT.set 0 _).cell rfl
      have hbit : ∀ j, j < 64 * n → bit (dlt f k s (n - 1)) j = ((decide (j < idx) && bit f j) || (decide (idx ≤ j) && (decide (j + 1 < 64 * n) && bit f (j + 1)))) := fun j hj => by rw [dlt_bit H.out.small hs hkn hj, ← HX.out]
      have hlw : len ≤ 64 * n := by have := H.out.n_eq; unfold wn at this; omega
      have hcl : ∀ j, len - 1 ≤ j → j < 64 * n → (dlt f k s (n - 1) (j / 64)).testBit (j % 64) = false := fun j h1 h2 => by
        have := hbit j h2
        unfold bit at this
        rw [this, decide_eq_false (show ¬ j < idx by omega)]
        by_cases h3 : j + 1 < 64 * n
        · rw [H.out.clean (j + 1) (by omega) h3]; simp
        · rw [decide_eq_false h3]; simp
      have hfin : ∀ j, j < len - 1 → bit (dlt f k s (n - 1)) j = ((decide (j < idx) && bit f j) || (decide (idx ≤ j) && bit f (j + 1))) := fun j hj => by
        rw [hbit j (by omega), decide_eq_true (show j + 1 < 64 * n by omega), Bool.true_and]
      have HF : Hid ((∀ j, len - 1 ≤ j → j < 64 * n → (dlt f k s (n - 1) (j / 64)).testBit (j % 64) = false) ∧ (∀ j, j < len - 1 → bit (dlt f k s (n - 1)) j = ((decide (j < idx) && bit f j) || (decide (idx ≤ j) && bit f (j + 1))))) := ⟨hcl, hfin⟩
      have HO2 : Hid (Only [p, b] w wr) := Lib.hid (HR2.out.2.mono (by simp +contextual))
      clear hqe hqn hl2 hN2 hT hbit hcl hfin hll
      by_cases hNn : N2 < n
      · go_wp2_with fail
        refine (HWC.out _ q0).mono ?_; rintro e' w' ⟨rfl, rfl⟩
        go_wp2_with fail
        go_ret
        refine ⟨rfl, N2, dlt f k s (n - 1), ⟨⟨T, ?_⟩, (HR2.out.1.wd.other HR2.out.1.ne _).other HR2.out.1.ne _, H.out.ne, by rw [HN2.out, HL2.out], by omega, dlt_lt H.out.small hs _ _, fun j h1 h2 => HF.out.1 j h1 (by omega)⟩, HF.out.2, (HO2.out.setCell (Or.inl (by simp)) _).setCell (Or.inl (by simp)) _⟩
        rw [← HL2.out]
        exact (HT.out.set 0 _).set 1 _
      · have hNe : decide (N2 < n) = false := decide_eq_false hNn
        have hNe2 : N2 = n := by omega
        have HNE := Lib.hid hNe2
        clear hNn hNe2
        go_wp2_with fail
        refine (HWC.out _ q0).mono ?_; rintro e' w' ⟨rfl, rfl⟩
        go_wp2_with fail
        go_ret
        refine ⟨rfl, n, dlt f k s (n - 1), ⟨⟨T, ?_⟩, HR2.out.1.wd.other HR2.out.1.ne _, H.out.ne, by rw [← HNE.out, HN2.out, HL2.out], hnc, dlt_lt H.out.small hs _ _, fun j h1 h2 => HF.out.1 j h1 h2⟩, HF.out.2, HO2.out.setCell (Or.inl (by simp)) _⟩
        rw [← HL2.out]
        exact HT.out.set 0 _

theorem delete_any {w : World} {B p len : Nat} {S : Nat → Bool} (h : Bs w B p len S) (i : Nat) (hi : i < len) (hl : len ≤ 99998) (hB : B ≤ w.heap.size) :
    Calls Try.prog 65 #[.pointer (some ⟨p, 0, none⟩), .int .u64 i] w fun e' w' => e' = .returned (.pointer (some ⟨p, 0, none⟩)) ∧
      Bs w' B p (len - 1) (fun j => (decide (j < i) && S j) || (decide (i ≤ j) && S (j + 1))) ∧ Below B w w' := by
  obtain ⟨b, n, c, f, h1, h2, h3, h4, h5, hS⟩ := h
  refine (del_words h1 i (i / 64) (i % 64) (by omega) (Nat.mod_lt _ (by decide)) hi hl).mono ?_
  rintro e' w' ⟨rfl, n2, g, g1, g2, g3⟩
  refine ⟨rfl, ⟨b, n2, c, g, g1, h2, h3, h4, by omega, fun j => ?_⟩, g3.below hB (by simp; omega)⟩
  show ((decide (j < i) && S j) || (decide (i ≤ j) && S (j + 1))) = _
  rw [hS, hS]
  by_cases hj : j < len - 1
  · rw [g2 j hj, decide_eq_true hj, Bool.true_and, decide_eq_true (show j < len by omega), decide_eq_true (show j + 1 < len by omega), Bool.true_and, Bool.true_and]
  · rw [decide_eq_false hj, decide_eq_false (show ¬ j < i by omega), decide_eq_false (show ¬ j + 1 < len by omega)]; simp

set_option maxHeartbeats 400000 in
theorem iDelete {w : World} {v : Value} {len : Nat} {S : Nat → Bool} (h : IsBits w v len S) (i : Nat) (hi : i < len) (hl98 : len ≤ 99998) :
    Calls Try.prog 30 #[v, .int .u64 i] w (Gives w (len - 1) fun j => (decide (j < i) && S j) || (decide (i ≤ j) && S (j + 1))) := by
  suffices key : ∀ L, L = len - 1 → Calls Try.prog 30 #[v, .int .u64 i] w (Gives w L fun j => (decide (j < i) && S j) || (decide (i ≤ j) && S (j + 1))) from key _ rfl
  intro L hL
  have HL := Lib.hid hL
  clear hL
  have H := Lib.hid h
  obtain ⟨so, n, cp, rfl⟩ := h.shape
  clear h
  go_enter Try.func30, Try.ntmps30
  go_wp2_with fail
  have r0 := Blk.new (w.alloc (Obj.cells #[Value.int IntKind.u64 ↑len, Value.slice so n cp] 25)) #[Value.int IntKind.u64 0, Value.slice none 0 0] 25
  simp at r0
  have R0 := Lib.hid r0
  clear r0
  refine (set64_any (H.out.same (((Below.refl _ _).alloc (Nat.le_refl _) _).alloc (by simp) _))).mono ?_
  rintro e w1 ⟨p, rfl, hB, hb⟩
  simp at hB hb
  have HB : Hid (Bs w1 (w.heap.size + 1 + 1) p len S ∧ Below w.heap.size w w1 ∧ Blk w1 (w.heap.size + 1) #[.int .u64 0, .slice none 0 0] 25) :=
    ⟨hB, (((Below.refl _ _).alloc (Nat.le_refl _) _).alloc (by simp) _).trans (hb.mono (by omega)), R0.out.below hb (by omega)⟩
  have hsz : w.heap.size + 1 + 1 ≤ w1.heap.size := by have := hb.size; simpa using this
  clear hB hb R0
  go_wp2_with fail
  refine (delete_any HB.out.1 i hi hl98 hsz).mono ?_
  rintro e w2 ⟨rfl, hB, hb⟩
  have HC : Hid (Bs w2 (w.heap.size + 1 + 1) p L (fun j => (decide (j < i) && S j) || (decide (i ≤ j) && S (j + 1))) ∧ Below w.heap.size w w2 ∧ Blk w2 (w.heap.size + 1) #[.int .u64 0, .slice none 0 0] 25 ∧ w.heap.size + 1 < w2.heap.size) :=
    ⟨by rw [HL.out]; exact hB, HB.out.2.1.trans (hb.mono (by omega)), HB.out.2.2.below hb (by omega), by have := hb.size; omega⟩
  clear hB hb HB hsz
  go_wp2_with fail
  refine (said64_any HC.out.1).mono ?_
  rintro e w3 ⟨v', rfl, hv, hb⟩
  obtain ⟨so', n', cp', rfl⟩ := (hv w3 (fun _ _ _ => rfl)).shape
  have hk := HC.out.2.2.1.below hb HC.out.2.2.2
  have HE := Lib.hid (gives_end (by omega) HC.out.2.2.2 hk hv (HC.out.2.1.trans (hb.mono HC.out.2.1.size)))
  have e0 : w3.cell? ⟨w.heap.size + 1, 0, none⟩ = some (.int .u64 0) := hk.cell rfl
  have e1 : w3.cell? ⟨w.heap.size + 1, 1, none⟩ = some (.slice none 0 0) := hk.cell rfl
  have f0 := hk.free 0
  have f1 := hk.free 1
  clear hk hv hb
  go_wp2_with fail
  have d0 := HE.out.1.cell (i := 0) rfl
  have d1 := HE.out.1.cell (i := 1) rfl
  refine bodyPost_ret (v := .agg #[.int .u64 L, .slice so' n' cp']) ?_ rfl HE.out.2
  simp at d0 d1
  simp [results, Try.results30, go_sem, d0, d1]

end Go.Proofs.Ytpmnpaannbhoeaa
