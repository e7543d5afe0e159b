/- The bitset's smaller functions: counts of words, the last word, setting all bits. -/
import Derived.Test.YtpmnpaannbhoeaaBs7
namespace Go.Proofs.Ytpmnpaannbhoeaa
open Go.RowKit

/-- A bitset but for the bits behind its end. -/
structure BDirty (w : World) (p b n c len : Nat) (f : Nat → Nat) : Prop where
  st : ∃ T, Blk w p #[.int .u64 len, .slice (some ⟨b, 0, none⟩) n c] T
  wd : Wd .u64 w b c f
  ne : p ≠ b
  n_eq : n = wn len
  nc : n ≤ c
  small : ∀ i, f i < 18446744073709551616
section
variable {w w' : World} {p b n c len : Nat} {f : Nat → Nat}
theorem BSet.dirty (h : BSet w p b n c len f) : BDirty w p b n c len f := ⟨h.st, h.wd, h.ne, h.n_eq, h.nc, h.small⟩
theorem BDirty.whole (h : BDirty w p b n c len f) (hc : ∀ i, len ≤ i → i < 64 * n → (f (i / 64)).testBit (i % 64) = false) : BSet w p b n c len f := ⟨h.st, h.wd, h.ne, h.n_eq, h.nc, h.small, hc⟩
theorem BDirty.len_cell (h : BDirty w p b n c len f) : w.cell? ⟨p, 0, none⟩ = some (.int .u64 len) := by obtain ⟨T, h⟩ := h.st; exact h.cell rfl
theorem BDirty.set_cell (h : BDirty w p b n c len f) : w.cell? ⟨p, 1, none⟩ = some (.slice (some ⟨b, 0, none⟩) n c) := by obtain ⟨T, h⟩ := h.st; exact h.cell rfl
theorem BDirty.free (h : BDirty w p b n c len f) (i : Nat) : w.frozen? ⟨p, i, none⟩ = false := by obtain ⟨T, h⟩ := h.st; exact h.free i
theorem BDirty.plt (h : BDirty w p b n c len f) : p < w.heap.size := by obtain ⟨T, h⟩ := h.st; exact h.lt
theorem BDirty.blt (h : BDirty w p b n c len f) : b < w.heap.size := h.wd.lt
theorem BDirty.word (h : BDirty w p b n c len f) {i : Nat} (hi : i < n) : w.cell? ⟨b, i, none⟩ = some (.int .u64 (f i)) := h.wd.cell (Nat.lt_of_lt_of_le hi h.nc)
theorem BDirty.drewN (h : BDirty w p b n c len f) (k : Nat) : BDirty (w.drewN k) p b n c len f := ⟨h.st, h.wd, h.ne, h.n_eq, h.nc, h.small⟩
theorem BDirty.store (h : BDirty w p b n c len f) (k v : Nat) (hv : v < 18446744073709551616) : BDirty (w.setCell ⟨b, k, none⟩ (.int .u64 v)) p b n c len (upd f k v) := by
  obtain ⟨T, h1⟩ := h.st
  refine ⟨⟨T, h1.other (fun e => h.ne e.symm) _⟩, h.wd.set k v, h.ne, h.n_eq, h.nc, ?_⟩
  intro i; unfold upd; split
  · exact hv
  · exact h.small i
end

set_option maxHeartbeats 400000 in
theorem panicIfNull_any (p : Addr) (w : World) :
    Calls Try.prog 82 #[.pointer (some p)] w fun e w' => e = .returned (.tuple #[]) ∧ w = w' := by
  go_enter Try.func82, Try.ntmps82
  go_wp2_with fail
  go_end0
  exact ⟨rfl, rfl⟩
set_option maxHeartbeats 400000 in
theorem wnUnbound_any (n : Nat) (w : World) (hn : n ≤ 1000000) :
    Calls Try.prog 96 #[.int .u64 n] w fun e w' => e = .returned (.int .i64 (wn n : Int)) ∧ w = w' := by
  go_enter Try.func96, Try.ntmps96
  go_wp2_with fail
  go_ret
  exact ⟨retI (by unfold wn; omega), rfl⟩
set_option maxHeartbeats 400000 in
theorem wordCount_any {w : World} {p b n c len : Nat} {f : Nat → Nat} (h : BDirty w p b n c len f) (hl : len ≤ 1000000) :
    Calls Try.prog 91 #[.pointer (some ⟨p, 0, none⟩)] w fun e w' => e = .returned (.int .i64 (n : Int)) ∧ w = w' := by
  have h0 := h.len_cell
  have HN := Lib.hid h.n_eq
  clear h
  go_enter Try.func91, Try.ntmps91
  go_wp2_with fail
  refine (wnUnbound_any _ _ hl).mono ?_; rintro e w' ⟨rfl, rfl⟩
  rw [← HN.out]
  go_wp2_with fail
  go_ret
  exact ⟨rfl, rfl⟩
set_option maxHeartbeats 400000 in
theorem exact_any {w : World} {p b n c len : Nat} {f : Nat → Nat} (h : BDirty w p b n c len f) (hl : len ≤ 1000000) :
    Calls Try.prog 94 #[.pointer (some ⟨p, 0, none⟩)] w fun e w' => e = .returned (.bool (decide (len % 64 = 0))) ∧ w = w' := by
  have h0 := h.len_cell
  clear h
  go_enter Try.func94, Try.ntmps94
  go_wp2_with fail
  refine (wordsIndex_any _ _ (by omega)).mono ?_; rintro e w' ⟨rfl, rfl⟩
  go_wp2_with fail
  go_ret
  exact ⟨retB (by rw [Bool.eq_iff_iff]; simp; omega), rfl⟩

set_option maxRecDepth 100000 in
set_option maxHeartbeats 400000 in
theorem clean_any {w : World} {p b n c len : Nat} {f : Nat → Nat} (h : BDirty w p b n c len f) (hl : len ≤ 1000000) (hr : 0 < len % 64) :
    Calls Try.prog 84 #[.pointer (some ⟨p, 0, none⟩)] w fun e w' => e = .returned (.tuple #[]) ∧
      w' = (w.drew).setCell ⟨b, n - 1, none⟩ (.int .u64 (low (f (n - 1)) (len % 64) : Int)) := by
  have h0 := h.len_cell
  have h1 := h.set_cell
  have hn : 0 < n := by rw [h.n_eq]; unfold wn; omega
  have h2 := h.word (i := n - 1) (by omega)
  have h3 := h.wd.free (n - 1)
  have HE := exact_any h hl
  rw [decide_eq_false (show ¬ len % 64 = 0 by omega)] at HE
  have HX := Lib.hid HE
  have H := Lib.hid h
  clear h HE
  go_enter Try.func84, Try.ntmps84
  go_wp2_with fail
  refine HX.out.mono ?_; rintro e w' ⟨rfl, rfl⟩
  go_wp2_with fail
  have k0 : (0 : Int) ≤ (n : Int) - 1 := by omega
  have k1 : (n : Int) - 1 < (n : Int) := by omega
  have k2 : ((n : Int) - 1).toNat = n - 1 := by omega
  have k3 : ((len : Int) % 64).toNat = len % 64 := by omega
  have k4 : ((64 : Int) - (len : Int) % 64).toNat = 64 - len % 64 := by omega
  have k5 : IntKind.u64.wrap ((64 : Int) - (len : Int) % 64) = (64 : Int) - (len : Int) % 64 := by rw [IntKind.wrap_u64]; omega
  have k6 : IntKind.i64.wrap ((n : Int) - 1) = (n : Int) - 1 := IntWalk.i64_in _ (by have := H.out.n_eq; unfold wn at this; omega)
  have k7 : (1 : Int) ≤ (n : Int) := by omega
  refine wp_region_still_tail 21 (by kernel_rfl) (by kernel_rfl) ?_
  simp only [List.take_succ_cons, List.take_zero, List.drop_succ_cons, List.drop_zero]
  repeat still_step
  still_call ((wordsIndex_any _ _ (by omega)).mono fun _ _ ⟨he, hw⟩ => ⟨he, hw.symm⟩)
  repeat still_step
  refine wpStill_nil ?_
  change wpList _ _ _ _ _ w.drew
  have HE := Lib.hid (and_low (f (n - 1)) (len % 64) (H.out.small _) (by omega))
  rw [HE.out]
  clear k0 k1 k2 k3 k4 k5 k6 k7
  go_wp2_with fail
  go_end0
  exact ⟨rfl, rfl⟩

set_option maxHeartbeats 400000 in
theorem clean_exact {w : World} {p b n c len : Nat} {f : Nat → Nat} (h : BDirty w p b n c len f) (hl : len ≤ 1000000) (hr : len % 64 = 0) :
    Calls Try.prog 84 #[.pointer (some ⟨p, 0, none⟩)] w fun e w' => e = .returned (.tuple #[]) ∧ w = w' := by
  have HE := exact_any h hl
  rw [decide_eq_true hr] at HE
  have HX := Lib.hid HE
  clear h HE hr
  go_enter Try.func84, Try.ntmps84
  go_wp2_with fail
  refine HX.out.mono ?_; rintro e w' ⟨rfl, rfl⟩
  go_wp2_with fail
  go_end0
  exact ⟨rfl, rfl⟩
/-- A bitset whose last word is cleaned is whole. -/
theorem clean_whole {w : World} {p b n c len : Nat} {f : Nat → Nat} (h : BDirty w p b n c len f) (hl : len ≤ 1000000) :
    Calls Try.prog 84 #[.pointer (some ⟨p, 0, none⟩)] w fun e w' => e = .returned (.tuple #[]) ∧
      (∃ g, BSet w' p b n c len g ∧ ∀ j, (decide (j < len) && bit g j) = (decide (j < len) && bit f j)) ∧ Only [b] w w' := by
  by_cases hr : len % 64 = 0
  · refine (clean_exact h hl hr).mono ?_
    rintro e w' ⟨rfl, rfl⟩
    exact ⟨rfl, ⟨f, h.whole (fun i h1 h2 => by rw [h.n_eq] at h2; unfold wn at h2; omega), fun _ => rfl⟩, Only.refl _ _⟩
  · refine (clean_any h hl (by omega)).mono ?_
    rintro e w' ⟨rfl, rfl⟩
    have hs := (h.drewN 1).store (n - 1) (low (f (n - 1)) (len % 64)) (low_lt _ _ (h.small _))
    refine ⟨rfl, ⟨_, hs.whole (fun i h1 h2 => ?_), fun j => ?_⟩, ((Only.refl [b] w).drewN 1).setCell (Or.inl (by simp)) _⟩
    · have e : i / 64 = n - 1 := by rw [h.n_eq] at h2 ⊢; unfold wn at *; omega
      unfold upd
      rw [if_pos e, low_tb, decide_eq_false (by rw [h.n_eq] at e; unfold wn at e; omega), Bool.false_and]
    · by_cases hj : j < len
      · unfold bit upd
        by_cases e : j / 64 = n - 1
        · rw [if_pos e, low_tb, e, decide_eq_true (show j % 64 < len % 64 by rw [h.n_eq] at e; unfold wn at e; omega), Bool.true_and]
        · rw [if_neg e]
      · simp [hj]

/-- The first k words of g, the others of f. -/
def upto (k : Nat) (g f : Nat → Nat) : Nat → Nat := fun i => if i < k then g i else f i
theorem upto_zero (g f : Nat → Nat) : upto 0 g f = f := by funext i; simp [upto]
theorem upto_step (k : Nat) (g f : Nat → Nat) : upd (upto k g f) k (g k) = upto (k + 1) g f := by
  funext i
  unfold upd upto
  by_cases h : i = k
  · rw [if_pos h, if_pos (by omega), h]
  · rw [if_neg h]
    by_cases h2 : i < k
    · rw [if_pos h2, if_pos (by omega)]
    · rw [if_neg h2, if_neg (by omega)]
theorem upto_bit (k : Nat) (g f : Nat → Nat) (j : Nat) : bit (upto k g f) j = if j < 64 * k then bit g j else bit f j := by
  unfold bit upto
  by_cases h : j / 64 < k
  · rw [if_pos h, if_pos (by omega)]
  · rw [if_neg h, if_neg (by omega)]
theorem ones_tb (j : Nat) (h : j < 64) : (18446744073709551615 : Nat).testBit j = true := by
  have := Nat.testBit_two_pow_sub_one 64 j
  rw [show (18446744073709551615 : Nat) = 2 ^ 64 - 1 from rfl, this, decide_eq_true h]

set_option maxHeartbeats 1000000 in
theorem setAll_any {w : World} {B p len : Nat} {S : Nat → Bool} (h : Bs w B p len S) (hB : B ≤ w.heap.size) :
    Calls Try.prog 54 #[.pointer (some ⟨p, 0, none⟩)] w fun e w' => e = .returned (.pointer (some ⟨p, 0, none⟩)) ∧
      Bs w' B p len (fun j => decide (j < len)) ∧ Below B w w' := by
  obtain ⟨b, n, c, f, h1, h2, h3, h4, h5, hS⟩ := h
  have hnl := fun w => run_neq_slice_nil (P := Try.prog) w 36 69 (some ⟨b, 0, none⟩) n c Try.underlying36
  have g0 := h1.len_cell
  have g1 := h1.set_cell
  have hnw : n ≤ 20000 := by rw [h1.n_eq]; unfold wn; omega
  have H := Lib.hid h1
  clear h1 hS
  go_enter Try.func54, Try.ntmps54
  go_wp2_with fail
  go_loopw [3, 18] (fun _ iv wr => ∃ k : Nat, k ≤ n ∧ iv = .int .i64 k ∧ Hid (BDirty wr p b n c len (upto k (fun _ => 18446744073709551615) f) ∧ Only [b] w wr)) (fun _ iv _ => n - (intOf iv).toNat)
  case atStart => exact ⟨0, by omega, rfl, by rw [upto_zero]; exact H.out.dirty, Only.refl _ _⟩
  case round =>
    obtain ⟨k, hk, rfl, hR⟩ := hrel
    have HR : Hid (BDirty wr p b n c len (upto k (fun _ => 18446744073709551615) f) ∧ Only [b] w wr) := hR
    clear hR
    have r1 := HR.out.1.set_cell
    by_cases hkn : k < n
    · have c1 := HR.out.1.word hkn
      have c2 := HR.out.1.wd.free k
      go_wp2_with fail
      go_roundw
      case rel =>
        refine ⟨k + 1, by omega, by go_num, ?_, HR.out.2.setCell (Or.inl (by simp)) _⟩
        have := HR.out.1.store k 18446744073709551615 (by decide)
        rwa [upto_step k (fun _ => 18446744073709551615) f] at this
      case measure => simp [intOf]; omega
    · have hkk : k = n := by omega
      have HK := Lib.hid hkk
      clear hkk
      go_wp2_with fail
      refine (clean_whole HR.out.1 (by omega)).mono ?_
      rintro e w2 ⟨rfl, hg, ho⟩
      have HG := Lib.hid hg
      have HO := Lib.hid (HR.out.2.trans ho)
      clear hg ho
      go_wp2_with fail
      go_ret
      obtain ⟨g, q1, q2⟩ := HG.out
      refine ⟨rfl, ⟨b, n, c, g, q1, h2, h3, h4, h5, fun j => ?_⟩, HO.out.below hB (by simp; omega)⟩
      rw [q2, upto_bit, HK.out]
      by_cases hj : j < len
      · rw [decide_eq_true hj, if_pos (by rw [H.out.n_eq]; unfold wn; omega)]
        unfold bit
        rw [ones_tb _ (Nat.mod_lt _ (by decide))]
        show decide (j < len) = _
        simp [hj]
      · rw [decide_eq_false hj]
        show decide (j < len) = _
        simp [hj]
end Go.Proofs.Ytpmnpaannbhoeaa
