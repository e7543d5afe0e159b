/- InsertAt. -/
import Derived.Test.YtpmnpaannbhoeaaBsClr
namespace Go.Proofs.Ytpmnpaannbhoeaa
open Go.RowKit Pop

/-- A word one place further on, with the last bit of the word before. -/
def shl1 (x : Nat) : Nat := x * 2 % 18446744073709551616
def insW (f : Nat → Nat) (q : Nat) : Nat := shl1 (f q) ||| f (q - 1) / 9223372036854775808
def ins (f : Nat → Nat) (m i : Nat) : Nat → Nat := fun q => if i < q ∧ q < m then insW f q else f q
theorem shl1_lt (x : Nat) : shl1 x < 18446744073709551616 := Nat.mod_lt _ (by decide)
theorem shl1_tb (x : Nat) {t : Nat} (ht : t < 64) : (shl1 x).testBit t = (decide (0 < t) && x.testBit (t - 1)) := by
  unfold shl1
  rw [show (18446744073709551616 : Nat) = 2 ^ 64 from rfl, Nat.testBit_mod_two_pow, decide_eq_true ht, Bool.true_and, show x * 2 = x <<< 1 by rw [Nat.shiftLeft_eq], Nat.testBit_shiftLeft]
  congr 1
theorem top_tb {x : Nat} (hx : x < 18446744073709551616) (t : Nat) : (x / 9223372036854775808).testBit t = (decide (t = 0) && x.testBit 63) := by
  rw [show (9223372036854775808 : Nat) = 2 ^ 63 from rfl, ← Nat.shiftRight_eq_div_pow, Nat.testBit_shiftRight]
  rcases Nat.eq_zero_or_pos t with h | h
  · subst h; simp
  · rw [decide_eq_false (by omega), Bool.false_and]
    exact Nat.testBit_lt_two_pow (Nat.lt_of_lt_of_le hx (Nat.pow_le_pow_right (n := 2) (i := 64) (by decide) (by omega)))
theorem top_and {x : Nat} (hx : x < 18446744073709551616) : (x &&& 9223372036854775808) / 9223372036854775808 = x / 9223372036854775808 := by
  have h0 : x &&& 9223372036854775808 < 18446744073709551616 := and64r (by decide)
  refine word_eq (by omega) (by omega) fun j hj => ?_
  rw [top_tb h0, top_tb hx, Nat.testBit_and, show (9223372036854775808 : Nat) = 2 ^ 63 from rfl, Nat.testBit_two_pow]
  simp
theorem insW_lt {f : Nat → Nat} (h : ∀ i, f i < 18446744073709551616) (q : Nat) : insW f q < 18446744073709551616 := or64 (shl1_lt _) (by have := h (q - 1); omega)
theorem insW_tb {f : Nat → Nat} (h : ∀ i, f i < 18446744073709551616) {q t : Nat} (hq : 0 < q) (ht : t < 64) : (insW f q).testBit t = bit f (64 * q + t - 1) := by
  unfold insW bit
  rw [Nat.testBit_or, shl1_tb _ ht, top_tb (h _)]
  rcases Nat.eq_zero_or_pos t with h1 | h1
  · subst h1
    rw [show (64 * q + 0 - 1) / 64 = q - 1 by omega, show (64 * q + 0 - 1) % 64 = 63 by omega]
    simp
  · rw [show (64 * q + t - 1) / 64 = q by omega, show (64 * q + t - 1) % 64 = t - 1 by omega, decide_eq_true h1, decide_eq_false (show ¬ t = 0 by omega)]
    simp
theorem ins_start (f : Nat → Nat) (m : Nat) : ins f m (m - 1) = f := by
  funext q
  unfold ins
  rw [if_neg (by omega)]
theorem ins_next (f : Nat → Nat) {m i : Nat} (h : i + 1 < m) (x : Nat) : upd (upd (ins f m (i + 1)) (i + 1) x) (i + 1) (insW f (i + 1)) = ins f m i := by
  funext q
  unfold upd ins
  by_cases h1 : q = i + 1
  · rw [if_pos h1, if_pos (by omega), h1]
  · rw [if_neg h1, if_neg h1]
    by_cases h2 : i + 1 < q ∧ q < m
    · rw [if_pos h2, if_pos (by omega)]
    · rw [if_neg h2, if_neg (by omega)]
theorem ins_low (f : Nat → Nat) (m i : Nat) {q : Nat} (h : q ≤ i) : ins f m i q = f q := by
  unfold ins
  rw [if_neg (by omega)]
/-- The word of the place itself. -/
def insK (x s : Nat) : Nat := (x &&& mLow s) ||| shl1 (x &&& mHigh s)
theorem insK_lt (x s : Nat) {hs : s < 64} : insK x s < 18446744073709551616 := or64 (and64r (mLow_lt hs)) (shl1_lt _)
theorem insK_tb (x : Nat) {s t : Nat} (hs : s < 64) (ht : t < 64) : (insK x s).testBit t = ((decide (t < s) && x.testBit t) || (decide (s < t) && x.testBit (t - 1))) := by
  unfold insK
  rw [Nat.testBit_or, Nat.testBit_and, mLow_tb, shl1_tb _ ht, Nat.testBit_and, mHigh_tb hs (show t - 1 < 64 by omega)]
  rcases Nat.lt_trichotomy t s with h | h | h
  · rw [decide_eq_true h, decide_eq_false (show ¬ s < t by omega), decide_eq_false (show ¬ s ≤ t - 1 by omega)]; simp
  · rw [decide_eq_false (show ¬ t < s by omega), decide_eq_false (show ¬ s < t by omega)]
    by_cases h1 : 0 < t
    · rw [decide_eq_false (show ¬ s ≤ t - 1 by omega)]; simp
    · rw [decide_eq_false h1]; simp
  · rw [decide_eq_false (show ¬ t < s by omega), decide_eq_true h, decide_eq_true (show s ≤ t - 1 by omega), decide_eq_true (show 0 < t by omega)]; simp
theorem ins_bit {f : Nat → Nat} (hf : ∀ i, f i < 18446744073709551616) {m k s : Nat} (hs : s < 64) {j : Nat} (hj : j < 64 * m) :
    bit (upd (ins f m k) k (insK (f k) s)) j = ((decide (j < 64 * k + s) && bit f j) || (decide (64 * k + s < j) && bit f (j - 1))) := by
  have hm := Nat.mod_lt j (show 0 < 64 by decide)
  by_cases h : j / 64 = k
  · unfold bit
    rw [h, upd_same, insK_tb _ hs hm]
    by_cases h0 : j % 64 < s
    · rw [decide_eq_true h0, decide_eq_true (show j < 64 * k + s by omega), decide_eq_false (show ¬ s < j % 64 by omega), decide_eq_false (show ¬ 64 * k + s < j by omega)]; simp
    · rw [decide_eq_false h0, decide_eq_false (show ¬ j < 64 * k + s by omega)]
      by_cases h1 : s < j % 64
      · rw [decide_eq_true h1, decide_eq_true (show 64 * k + s < j by omega), show (j - 1) / 64 = k by omega, show (j - 1) % 64 = j % 64 - 1 by omega]
      · rw [decide_eq_false h1, decide_eq_false (show ¬ 64 * k + s < j by omega)]; simp
  · by_cases h1 : k < j / 64
    · have e : bit (upd (ins f m k) k (insK (f k) s)) j = (insW f (j / 64)).testBit (j % 64) := by
        unfold bit ins
        rw [upd_other _ _ _ _ h, if_pos (by omega)]
      rw [e, insW_tb hf (by omega) hm, decide_eq_false (show ¬ j < 64 * k + s by omega), decide_eq_true (show 64 * k + s < j by omega), show 64 * (j / 64) + j % 64 - 1 = j - 1 by omega]
      simp
    · have e : bit (upd (ins f m k) k (insK (f k) s)) j = bit f j := by
        unfold bit ins
        rw [upd_other _ _ _ _ h, if_neg (by omega)]
      rw [e, decide_eq_true (show j < 64 * k + s by omega), decide_eq_false (show ¬ 64 * k + s < j by omega)]
      simp

set_option maxRecDepth 100000 in
set_option maxHeartbeats 1000000 in
theorem ins_words {w : World} {p b n c len : Nat} {f : Nat → Nat} (h : BSet w p b n c len f) (idx k s : Nat) (hx : idx = 64 * k + s) (hs : s < 64) (hi : idx < len) (hl : len ≤ 99998) (hcm : c ≤ 200000) :
    Calls Try.prog 64 #[.pointer (some ⟨p, 0, none⟩), .int .u64 idx] w fun e' w' => e' = .returned (.pointer (some ⟨p, 0, none⟩)) ∧
      ∃ b2 n2 c2 g, BSet w' p b2 n2 c2 (len + 1) g ∧ (∀ j, j < len + 1 → bit g j = ((decide (j < idx) && bit f j) || (decide (idx < j) && bit f (j - 1)))) ∧ Only [p, b] w w' ∧ (b2 = b ∨ w.heap.size ≤ b2) ∧ c2 ≤ 200000 := by
  have x0 := h.len_cell
  have x1 := h.set_cell
  have H := Lib.hid h
  have a1 : (idx : Int) / 64 = (k : Int) := by omega
  have hwx : ∀ w, Calls Try.prog 80 #[.int .u64 idx] w fun e' w' => e' = .returned (.int .u64 (s : Int)) ∧ w = w' := fun w => by
    have := wordsIndex_any idx w (by omega)
    rwa [show idx % 64 = s by omega] at this
  have HX := Lib.hid hx
  have hlt2 : decide (len ≤ idx) = false := decide_eq_false (by omega)
  have hk9 : k ≤ 99999 := by omega
  have hMl := mLow_lt hs
  have hMh := mHigh_lt s
  have hsg : IntKind.u64.signed = false := rfl
  clear h hx
  go_enter Try.func64, Try.ntmps64
  go_wp2_with fail
  refine (extend_words H.out len (Nat.le_refl _) (by omega) hcm).mono ?_
  rintro e' w2 ⟨rfl, b2, c2, g0, hB, hgw, ho, hb, hc⟩
  obtain ⟨m, hm⟩ : ∃ m, m = wn (len + 1) := ⟨_, rfl⟩
  rw [← hm] at hB hgw
  have HB : Hid (Only [p, b] w w2 ∧ (b2 = b ∨ b2 = w.heap.size) ∧ c2 ≤ 200000) := ⟨ho, hb, hc⟩
  have HGW := Lib.hid hgw
  have x2 := hB.len_cell
  have x3 := hB.set_cell
  have HX2 := Lib.hid hB
  have hmn : k < m := by have := HX.out; unfold wn at hm; omega
  have hm2 : m ≤ 20000 := by unfold wn at hm; omega
  have HM := Lib.hid hm
  obtain ⟨r, hr⟩ : ∃ r, m = r + 1 := ⟨m - 1, by omega⟩
  have hr1 : (m : Int) - 1 = (r : Int) := by omega
  have hrm : r < m := by omega
  have HR0 := Lib.hid hr
  have hkr : k ≤ r := by omega
  clear hB hgw ho hb hc x0 x1 hm hr
  go_wp2_with fail
  clear hr1
  go_loopw [6] (fun iv wr => ∃ i : Nat, k ≤ i ∧ i < m ∧ iv = .int .u64 i ∧ Hid (BDirty wr p b2 m c2 (len + 1) (ins g0 m i) ∧ Only [b2] w2 wr)) (fun iv _ => (intOf iv).toNat)
  case atStart =>
    refine ⟨r, hkr, hrm, rfl, ?_, Only.refl _ _⟩
    have := ins_start g0 m
    rw [show m - 1 = r by have := HR0.out; omega] at this
    rw [this]
    exact HX2.out.dirty
  case round =>
    obtain ⟨i, hki, him, rfl, hR⟩ := hrel
    have HR : Hid (BDirty wr p b2 m c2 (len + 1) (ins g0 m i) ∧ Only [b2] w2 wr) := hR
    clear hR x2 x3
    have d1 := HR.out.1.set_cell
    by_cases hik : k < i
    · obtain ⟨i', hi'⟩ : ∃ i', i = i' + 1 := ⟨i - 1, by omega⟩
      have hi1 : (i : Int) - 1 = (i' : Int) := by omega
      have c1 := HR.out.1.word him
      have c2' := HR.out.1.wd.free i
      have c3 := HR.out.1.word (i := i') (by omega)
      rw [ins_low g0 m i (Nat.le_refl _)] at c1
      rw [ins_low g0 m i (show i' ≤ i by omega)] at c3
      have hne : i' ≠ i := by omega
      have HI := Lib.hid hi'
      clear hi'
      go_wp2_with fail
      have k0 : (0 : Int) ≤ (i : Int) := by omega
      have k1 : (i : Int) < (m : Int) := by omega
      have k2 : ((i : Int)).toNat = i := by omega
      have k3 : (0 : Int) ≤ (i' : Int) := by omega
      have k4 : (i' : Int) < (m : Int) := by omega
      have k5 : ((i' : Int)).toNat = i' := by omega
      have k6 : IntKind.u64.wrap (i' : Int) = (i' : Int) := by rw [IntKind.wrap_u64]; omega
      have HE1 : Hid (IntKind.u64.wrap ((g0 i : Int) * 2) = (shl1 (g0 i) : Int)) := Lib.hid (by unfold shl1; rw [IntKind.wrap_u64]; omega)
      rw [HE1.out]
      have HD : Hid (BDirty (wr.setCell ⟨b2, i, none⟩ (.int .u64 (shl1 (g0 i) : Int))) p b2 m c2 (len + 1) (upd (ins g0 m i) i (shl1 (g0 i))) ∧ Only [b2] w2 (wr.setCell ⟨b2, i, none⟩ (.int .u64 (shl1 (g0 i) : Int)))) :=
        ⟨HR.out.1.store i _ (shl1_lt _), HR.out.2.setCell (Or.inl (by simp)) _⟩
      generalize wr.setCell ⟨b2, i, none⟩ (.int .u64 (shl1 (g0 i) : Int)) = w3 at *
      clear d1 c1 c2' c3
      have d1 := HD.out.1.set_cell
      have c1 := HD.out.1.word him
      have c2' := HD.out.1.wd.free i
      have c3 := HD.out.1.word (i := i') (by omega)
      rw [upd_same] at c1
      rw [upd_other _ _ _ _ hne, ins_low g0 m i (show i' ≤ i by have := HI.out; omega)] at c3
      refine wp_region_still_tail 19 (by kernel_rfl) (by kernel_rfl) ?_
      simp only [List.take_succ_cons, List.take_zero, List.drop_succ_cons, List.drop_zero]
      repeat still_step
      refine wpStill_nil ?_
      change wpList _ _ _ _ _ w3.drew
      have HE2 : Hid (bits BinOp.or IntKind.u64 (shl1 (g0 i) : Int) (bits BinOp.and IntKind.u64 (g0 i' : Int) 9223372036854775808 / 9223372036854775808) = (insW g0 i : Int)) := Lib.hid (by
        rw [show (9223372036854775808 : Int) = ((9223372036854775808 : Nat) : Int) from rfl, u64_and_nat _ _ (HX2.out.small i') (by decide), ← Int.natCast_ediv, top_and (HX2.out.small i'), u64_or_nat _ _ (shl1_lt _) (by have := HX2.out.small i'; omega)]
        unfold insW
        rw [show i - 1 = i' by have := HI.out; omega])
      rw [HE2.out]
      clear k0 k1 k2 k3 k4 k5 k6
      go_wp2_with fail
      go_roundw
      case rel =>
        refine ⟨i', by have := HI.out; omega, by have := HI.out; omega, rfl, BDirty.drewN (k := 1) ?_, (HD.out.2.setCell (Or.inl (by simp)) _).drewN 1⟩
        have h1 := HD.out.1.store i (insW g0 i) (insW_lt HX2.out.small _)
        have h2 := ins_next g0 (m := m) (i := i') (by have := HI.out; omega) (shl1 (g0 i))
        rw [← HI.out] at h2
        rwa [h2] at h1
      case measure => have := HI.out; simp [intOf]; omega
    · have hik2 : i = k := by omega
      have HR2 : Hid (BDirty wr p b2 m c2 (len + 1) (ins g0 m k) ∧ Only [b2] w2 wr) := by have := HR.out; rwa [hik2] at this
      have hiF : decide (k < i) = false := decide_eq_false hik
      clear hik2 hik
      have c1 := HR2.out.1.word hmn
      have c2' := HR2.out.1.wd.free k
      rw [ins_low g0 m k (Nat.le_refl _)] at c1
      have q1 : ∀ v, (wr.setCell ⟨b2, k, none⟩ v).cell? ⟨p, 1, none⟩ = some (.slice (some ⟨b2, 0, none⟩) m c2) := fun v => by
        obtain ⟨T, hT⟩ := HR2.out.1.st
        exact (hT.other (fun e => HR2.out.1.ne e.symm) v).cell rfl
      go_wp2_with fail
      refine (hwx _).mono ?_; rintro e' w' ⟨rfl, rfl⟩
      go_wp2_with fail
      have HEb : Hid (bits BinOp.or IntKind.u64 (bits BinOp.and IntKind.u64 (g0 k : Int) (IntKind.u64.wrap (IntKind.u64.wrap (2 ^ s) - 1))) (IntKind.u64.wrap (bits BinOp.and IntKind.u64 (g0 k : Int) (bits BinOp.xor IntKind.u64 IntKind.u64.max (IntKind.u64.wrap (IntKind.u64.wrap (2 ^ s) - 1))) * 2)) = (insK (g0 k) s : Int)) := Lib.hid (by
        rw [andHigh_I _ (HX2.out.small k) hs, andLow_I _ (HX2.out.small k) hs, show IntKind.u64.wrap (((g0 k &&& mHigh s : Nat) : Int) * 2) = ((shl1 (g0 k &&& mHigh s) : Nat) : Int) by unfold shl1; rw [IntKind.wrap_u64]; omega, u64_or_nat _ _ (and64r hMl) (shl1_lt _)]
        rfl)
      have HEa : Hid (bits BinOp.and IntKind.u64 (g0 k : Int) (IntKind.u64.wrap (IntKind.u64.wrap (2 ^ s) - 1)) = ((g0 k &&& mLow s : Nat) : Int)) := Lib.hid (andLow_I _ (HX2.out.small k) hs)
      rw [HEb.out, HEa.out]
      have hst := (HR2.out.1.store k (g0 k &&& mLow s) (and64r hMl)).store k (insK (g0 k) s) (insK_lt (hs := hs) _ _)
      rw [show upd (upd (ins g0 m k) k (g0 k &&& mLow s)) k (insK (g0 k) s) = upd (ins g0 m k) k (insK (g0 k) s) from by funext q; unfold upd; by_cases e : q = k <;> simp [e]] at hst
      have hg0 : ∀ j, j < 64 * m → bit g0 j = (decide (j < len) && bit f j) := by
        intro j hj
        unfold bit
        rw [HGW.out _ (by omega)]
        by_cases h1 : j / 64 < n
        · rw [if_pos h1]
          by_cases h2 : j < len
          · rw [decide_eq_true h2, Bool.true_and]
          · rw [decide_eq_false h2, Bool.false_and]; exact H.out.clean j (by omega) (by omega)
        · rw [if_neg h1, Nat.zero_testBit, decide_eq_false (show ¬ j < len by have := H.out.n_eq; unfold wn at this; omega), Bool.false_and]
      have hbit : ∀ j, j < 64 * m → bit (upd (ins g0 m k) k (insK (g0 k) s)) j = ((decide (j < idx) && bit g0 j) || (decide (idx < j) && bit g0 (j - 1))) := fun j hj => by rw [ins_bit HX2.out.small hs hj, ← HX.out]
      have hmw : len + 1 ≤ 64 * m := by have := HM.out; unfold wn at this; omega
      go_ret
      refine ⟨rfl, b2, m, c2, _, hst.whole fun j h1 h2 => ?_, fun j hj => ?_, ?_, ?_, HB.out.2.2⟩
      · have := hbit j h2
        rw [hg0 (j - 1) (by omega), decide_eq_false (show ¬ j < idx by omega), decide_eq_false (show ¬ j - 1 < len by omega)] at this
        unfold bit at this
        rw [this]
        simp
      · skip
        rw [hbit j (by omega), hg0 j (by omega), hg0 (j - 1) (by omega)]
        by_cases h1 : j < idx
        · rw [decide_eq_true h1, decide_eq_true (show j < len by omega), decide_eq_false (show ¬ idx < j by omega)]; simp
        · rw [decide_eq_false h1]
          by_cases h2 : idx < j
          · rw [decide_eq_true (show j - 1 < len by omega)]; simp
          · rw [decide_eq_false h2]; simp
      · have hon := (HR2.out.2.setCell (p := ⟨b2, k, none⟩) (Or.inl (by simp)) (.int .u64 ((g0 k &&& mLow s : Nat) : Int))).setCell (p := ⟨b2, k, none⟩) (Or.inl (by simp)) (.int .u64 (insK (g0 k) s : Int))
        refine Only.new (B := w.heap.size) HB.out.1 (hon.mono fun k _ hk => ?_) (Nat.le_refl _)
        have := HB.out.2.1
        simp at hk ⊢
        omega
      · have := HB.out.2.1
        omega

end Go.Proofs.Ytpmnpaannbhoeaa
