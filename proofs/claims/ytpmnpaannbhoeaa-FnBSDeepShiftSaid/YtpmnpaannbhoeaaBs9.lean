/- The bitset's Shrink and Clear. -/
import Derived.Test.YtpmnpaannbhoeaaBs8
namespace Go.Proofs.Ytpmnpaannbhoeaa
open Go.RowKit

theorem put_bit (n : Nat) (f : Nat → Nat) (j : Nat) : bit (put (fun _ => 0) 0 ((List.range n).map fun j => f (0 + j))) j = (decide (j < 64 * n) && bit f j) := by
  unfold bit put
  by_cases h : j / 64 < n
  · rw [if_pos (by simp; omega), decide_eq_true (by omega), Bool.true_and]
    simp [h]
  · rw [if_neg (by simp; omega), decide_eq_false (by omega), Bool.false_and]
    exact Nat.zero_testBit _
theorem put_small (n : Nat) (f : Nat → Nat) (h : ∀ i, f i < 18446744073709551616) (j : Nat) : put (fun _ => 0) 0 ((List.range n).map fun j => f (0 + j)) j < 18446744073709551616 := by
  unfold put
  split
  · rename_i hj
    simp at hj
    simp [hj]
    exact h _
  · show (0 : Nat) < _; decide

theorem wordsIndex_small (n : Nat) (w : World) (hn : n < 64) :
    Calls Try.prog 80 #[.int .u64 n] w fun e w' => e = .returned (.int .u64 (n : Int)) ∧ w = w' := by
  have := wordsIndex_any n w (by omega)
  rwa [Nat.mod_eq_of_lt hn] at this

set_option maxRecDepth 100000 in
set_option maxHeartbeats 1000000 in
theorem shrink_in {w : World} {p b n c len : Nat} {f : Nat → Nat} (h : BSet w p b n c len f) (i : Nat) (hi : i < len) (hl : len ≤ 1000000) :
    Calls Try.prog 49 #[.pointer (some ⟨p, 0, none⟩), .int .u64 i] w fun e w' => e = .returned (.pointer (some ⟨p, 0, none⟩)) ∧
      (∃ g, BSet w' p w.heap.size (wn (i + 1)) (wn (i + 1)) (i + 1) g ∧ ∀ j, (decide (j < i + 1) && bit g j) = (decide (j < i + 1) && bit f j)) ∧ Only [p] w w' := by
  have h0 := h.len_cell
  have h1 := h.set_cell
  have z0 := h.free 0
  have z1 := h.free 1
  have hnc := h.nc
  have hplt := h.plt
  have H := Lib.hid h
  have hmn : wn (i + 1) ≤ n := by rw [h.n_eq]; unfold wn; omega
  have hm0 : 0 < wn (i + 1) := by unfold wn; omega
  clear h
  generalize hm : wn (i + 1) = m at *
  have hmb : m ≤ 20000 := by rw [← hm]; unfold wn; omega
  have HM := Lib.hid hm
  clear hm
  have hmk := fun w => make_u64 m m w (by omega) (by omega)
  obtain ⟨W, hW⟩ : ∃ W, W = (w.alloc (.cells (madeCells #[.int .u64 0] m) 69)).setCells w.heap.size 0 (((List.range m).map fun j => f (0 + j)).map fun n : Nat => Value.int .u64 (n : Int)) := ⟨_, rfl⟩
  have hcopy : ∀ ty, (Builtin.copy_ #[36, 36] ty #[.slice (some ⟨w.heap.size, 0, none⟩) m m, .slice (some ⟨b, 0, none⟩) m c]).run Try.prog (w.alloc (.cells (madeCells #[.int .u64 0] m) 69)) =
      .ok (.int .i64 (m : Int)) W := fun ty => by
    rw [hW]
    exact run_copy_wd (P := Try.prog) (K := .u64) (f := fun _ => 0) (c := m) 36 ty 69 Try.underlying36 size69 ⟨_, _, Blk.new _ _ _, size_madeCells _ _, made_cells _⟩ (H.out.wd.alloc _) 0 0 m m m c m (by show m = min m m; omega) (by omega) (by omega)
  have ho : Only [p] w W := by
    rw [hW]; exact Only.setCells (Or.inr (Nat.le_refl _)) _ _ ((Only.refl _ _).alloc _)
  have hwd : Wd .u64 W w.heap.size m (put (fun _ => 0) 0 ((List.range m).map fun j => f (0 + j))) := by
    rw [hW]; exact Wd.setCells _ _ ⟨_, _, Blk.new _ _ _, size_madeCells _ _, made_cells _⟩
  obtain ⟨T, hst⟩ := H.out.st
  have hst2 : Blk W p #[.int .u64 len, .slice (some ⟨b, 0, none⟩) n c] T := by
    rw [hW]; exact Blk.setCells (by omega) _ _ (hst.alloc _)
  have d1 : W.cell? ⟨p, 1, none⟩ = some (.slice (some ⟨b, 0, none⟩) n c) := hst2.cell rfl
  have d0 : W.cell? ⟨p, 0, none⟩ = some (.int .u64 len) := hst2.cell rfl
  have e0 := hst2.free 0
  have e1 := hst2.free 1
  have HR : Hid (Only [p] w W ∧ Wd .u64 W w.heap.size m (put (fun _ => 0) 0 ((List.range m).map fun j => f (0 + j))) ∧ Blk W p #[.int .u64 len, .slice (some ⟨b, 0, none⟩) n c] T) := ⟨ho, hwd, hst2⟩
  clear ho hwd hst2 hst hW
  go_enter Try.func49, Try.ntmps49
  go_wp2_with fail
  rw [show (i : Int) + 1 = ((i + 1 : Nat) : Int) by omega]
  refine (wordsNeeded_any _ _ (by omega)).mono ?_; rintro e w' ⟨rfl, rfl⟩
  rw [HM.out]
  by_cases hr : (i + 1) % 64 = 0
  · have hr2 : (((i : Int) + 1) % 64 != 0) = false := by simp; omega
    go_wp2_with fail
    go_ret
    have hd : BDirty ((W.setCell ⟨p, 1, none⟩ (.slice (some ⟨w.heap.size, 0, none⟩) m m)).setCell ⟨p, 0, none⟩ (.int .u64 ((i : Int) + 1))) p w.heap.size m m (i + 1) (put (fun _ => 0) 0 ((List.range m).map fun j => f (0 + j))) :=
      ⟨⟨T, (HR.out.2.2.set 1 _).set 0 _⟩, (HR.out.2.1.other (by show p ≠ w.heap.size; omega) _).other (by show p ≠ w.heap.size; omega) _, by omega, HM.out.symm, Nat.le_refl _, put_small _ _ H.out.small⟩
    refine ⟨rfl, ⟨_, hd.whole (fun j h1 h2 => by rw [← HM.out] at h2; unfold wn at h2; omega), fun j => ?_⟩, (HR.out.1.setCell (Or.inl (by simp)) _).setCell (Or.inl (by simp)) _⟩
    by_cases hj : j < i + 1
    · rw [put_bit, decide_eq_true (show j < 64 * m by rw [← HM.out]; unfold wn; omega), Bool.true_and]
    · rw [decide_eq_false hj]; rfl
  · have hr2 : (((i : Int) + 1) % 64 != 0) = true := by simp; omega
    go_wp2_with fail
    obtain ⟨r, hre⟩ : ∃ r, r = (i + 1) % 64 := ⟨_, rfl⟩
    have hrc : ((i : Int) + 1) % 64 = (r : Int) := by omega
    have hr0 : 0 < r := by omega
    have hr64 : r < 64 := by omega
    rw [hrc]
    have HRE := Lib.hid hre
    clear hrc hr2 hr hre
    obtain ⟨W2, hW2⟩ : ∃ W2, W2 = (W.setCell ⟨p, 1, none⟩ (.slice (some ⟨w.heap.size, 0, none⟩) m m)).setCell ⟨p, 0, none⟩ (.int .u64 ((i : Int) + 1)) := ⟨_, rfl⟩
    have hd : BDirty W2 p w.heap.size m m (i + 1) (put (fun _ => 0) 0 ((List.range m).map fun j => f (0 + j))) := by
      rw [hW2]
      exact ⟨⟨T, (HR.out.2.2.set 1 _).set 0 _⟩, (HR.out.2.1.other (by show p ≠ w.heap.size; omega) _).other (by show p ≠ w.heap.size; omega) _, by omega, HM.out.symm, Nat.le_refl _, put_small _ _ H.out.small⟩
    have hO : Only [p] w W2 := by rw [hW2]; exact (HR.out.1.setCell (Or.inl (by simp)) _).setCell (Or.inl (by simp)) _
    have HB : Hid (∀ j, bit (put (fun _ => 0) 0 ((List.range m).map fun j => f (0 + j))) j = (decide (j < 64 * m) && bit f j)) := fun j => put_bit m f j
    rw [← hW2]
    have HO := Lib.hid hO
    have HD := Lib.hid hd
    generalize put (fun _ => 0) 0 ((List.range m).map fun j => f (0 + j)) = g at *
    have h5 := hd.set_cell
    have h6 := hd.word (i := m - 1) (by omega)
    have h7 := hd.wd.free (m - 1)
    clear hd hO hW2 h0 h1 z0 z1 d0 d1 e0 e1 hcopy hmk
    have k0 : (0 : Int) ≤ (m : Int) - 1 := by omega
    have k1 : (m : Int) - 1 < (m : Int) := by omega
    have k2 : ((m : Int) - 1).toNat = m - 1 := by omega
    have k4 : ((64 : Int) - (r : Int)).toNat = 64 - r := by omega
    have k5 : IntKind.u64.wrap ((64 : Int) - (r : Int)) = (64 : Int) - (r : Int) := by rw [IntKind.wrap_u64]; omega
    have k6 : IntKind.i64.wrap ((m : Int) - 1) = (m : Int) - 1 := IntWalk.i64_in _ (by omega)
    have k7 : (1 : Int) ≤ (m : Int) := by omega
    refine wp_region_still_tail 14 (by kernel_rfl) (by kernel_rfl) ?_
    simp only [List.take_succ_cons, List.take_zero, List.drop_succ_cons, List.drop_zero]
    repeat still_step
    still_call ((wordsIndex_small _ _ hr64).mono fun _ _ ⟨he, hw⟩ => ⟨he, hw.symm⟩)
    repeat still_step
    refine wpStill_nil ?_
    change wpList _ _ _ _ _ W2.drew
    have HE := Lib.hid (and_low (g (m - 1)) r (HD.out.small _) (by omega))
    rw [HE.out]
    clear k0 k1 k2 k4 k5 k6 k7
    go_wp2_with fail
    go_ret
    have hs := (HD.out.drewN 1).store (m - 1) (low (g (m - 1)) r) (low_lt _ _ (HD.out.small _))
    refine ⟨rfl, ⟨_, hs.whole (fun j h1 h2 => ?_), fun j => ?_⟩, (HO.out.drewN 1).setCell (Or.inr (Nat.le_refl _)) _⟩
    · have e : j / 64 = m - 1 := by rw [← HM.out] at h2 ⊢; unfold wn at *; omega
      unfold upd
      rw [if_pos e, low_tb, decide_eq_false (by rw [HRE.out]; rw [← HM.out] at e; unfold wn at e; omega), Bool.false_and]
    · by_cases hj : j < i + 1
      · have hm' : (decide (j < i + 1) && bit (upd g (m - 1) (low (g (m - 1)) r)) j) = bit g j := by
          rw [decide_eq_true hj, Bool.true_and]
          unfold bit upd
          by_cases e : j / 64 = m - 1
          · rw [if_pos e, low_tb, e, decide_eq_true (show j % 64 < r by have hx := HRE.out; have hm2 := HM.out; unfold wn at hm2; omega), Bool.true_and]
          · rw [if_neg e]
        rw [hm', HB.out, decide_eq_true (show j < 64 * m by rw [← HM.out]; unfold wn; omega), decide_eq_true hj]
      · rw [decide_eq_false hj]; rfl

theorem shrink_any {w : World} {B p len : Nat} {S : Nat → Bool} (h : Bs w B p len S) (i : Nat) (hi : i < len) (hB : B ≤ w.heap.size) :
    Calls Try.prog 49 #[.pointer (some ⟨p, 0, none⟩), .int .u64 i] w fun e w' => e = .returned (.pointer (some ⟨p, 0, none⟩)) ∧
      Bs w' B p (i + 1) (fun j => decide (j < i + 1) && S j) ∧ Below B w w' := by
  obtain ⟨b, n, c, f, h1, h2, h3, h4, h5, hS⟩ := h
  refine (shrink_in h1 i hi (by omega)).mono ?_
  rintro e w' ⟨rfl, ⟨g, q1, q2⟩, ho⟩
  refine ⟨rfl, ⟨_, _, _, g, q1, h2, hB, by unfold wn; omega, by omega, fun j => ?_⟩, ho.below hB (by simp; omega)⟩
  rw [q2]
  show (decide (j < i + 1) && S j) = _
  rw [hS]
  by_cases hj : j < i + 1
  · rw [decide_eq_true hj, decide_eq_true (show j < len by omega), Bool.true_and]
  · rw [decide_eq_false hj]; rfl

theorem clear_bit (f : Nat → Nat) (hf : ∀ i, f i < 18446744073709551616) (i j : Nat) : bit (upd f (i / 64) (offBit (f (i / 64)) (i % 64))) j = (bit f j && !decide (i = j)) := by
  unfold bit upd
  by_cases hw : j / 64 = i / 64
  · rw [if_pos hw, offBit_tb _ _ _ (hf _) (Nat.mod_lt _ (by decide)), hw]
    by_cases e : i = j
    · subst e; simp
    · have : ¬ i % 64 = j % 64 := by omega
      simp [e, this]
  · rw [if_neg hw]
    have : ¬ i = j := fun e => hw (by rw [e])
    simp [this]
set_option maxHeartbeats 400000 in
theorem clear_any {w : World} {B p len : Nat} {S : Nat → Bool} (h : Bs w B p len S) (i : Nat) (hl : i < 100000) (hB : B ≤ w.heap.size) :
    Calls Try.prog 70 #[.pointer (some ⟨p, 0, none⟩), .int .u64 i] w fun e w' => e = .returned (.pointer (some ⟨p, 0, none⟩)) ∧
      Bs w' B p len (fun j => S j && !decide (i = j)) ∧ Below B w w' := by
  have HS := Lib.hid h
  obtain ⟨b, n, c, f, h1, g2, g3, g4, g5, hS⟩ := h
  have h0 := h1.len_cell
  have H1 := Lib.hid h1
  by_cases hi : i < len
  · have hc := h1.set_cell
    have hin : i / 64 < n := by rw [h1.n_eq]; unfold wn; omega
    have h2 := h1.word hin
    have h3 := h1.wd.free (i / 64)
    have HQ := Lib.hid hS
    clear h1 hS
    go_enter Try.func70, Try.ntmps70
    go_wp2_with fail
    have k0 : (0 : Int) ≤ (i : Int) / 64 := by omega
    have k1 : (i : Int) / 64 < (n : Int) := by omega
    have k2 : ((i : Int) / 64).toNat = i / 64 := by omega
    have k3 : ((i : Int) % 64).toNat = i % 64 := by omega
    refine wp_region_still_tail 13 (by kernel_rfl) (by kernel_rfl) ?_
    simp only [List.take_succ_cons, List.take_zero, List.drop_succ_cons, List.drop_zero]
    repeat still_step
    still_call ((wordsIndex_any _ _ (by omega)).mono fun _ _ ⟨he, hw⟩ => ⟨he, hw.symm⟩)
    repeat still_step
    refine wpStill_nil ?_
    change wpList _ _ _ _ _ w.drew
    have HE := Lib.hid (off_bit (f (i / 64)) (i % 64) (H1.out.small _) (Nat.mod_lt _ (by decide)))
    rw [HE.out]
    go_wp2_with fail
    go_ret
    have g := (H1.out.drewN 1).store (i / 64) _ (offBit_lt _ (i % 64) (H1.out.small _)) (fun j hj h1 h2 => by
      rw [offBit_tb _ _ _ (H1.out.small _) (Nat.mod_lt _ (by decide)), H1.out.clean' hj h1 h2]; rfl)
    refine ⟨rfl, ⟨b, n, c, _, g, g2, g3, g4, g5, fun j => by rw [clear_bit _ H1.out.small, ← Bool.and_assoc, ← HQ.out]⟩, ?_⟩
    exact (((Only.refl [b] w).drewN 1).setCell (Or.inl (by simp)) _).below hB (by simp; omega)
  · clear h1 hS
    go_enter Try.func70, Try.ntmps70
    go_wp2_with fail
    go_ret
    refine ⟨rfl, HS.out.congr fun j => ?_, Below.refl _ _⟩
    by_cases hj : j < len
    · simp; omega
    · rw [HS.out.out j (by omega)]; rfl
end Go.Proofs.Ytpmnpaannbhoeaa
