/- The walk of the bitset's growth. -/
import Derived.Test.YtbkodehcjhpcmaaQ2
namespace Go.Proofs.Ytbkodehcjhpcmaa.Q
open Go.RowKit

theorem size69 : (Try.prog.info? 25).map (·.size) = some 1 := by kernel_rfl

/-- Growth where there is room. -/
def zeroFrom (n : Nat) (f : Nat → Nat) (m : Nat) : Nat → Nat := fun i => if n ≤ i ∧ i < m then 0 else f i
theorem zeroFrom_small (n m : Nat) (f : Nat → Nat) (h : ∀ i, f i < 18446744073709551616) : ∀ i, zeroFrom n f m i < 18446744073709551616 := by
  intro i; unfold zeroFrom; split
  · decide
  · exact h i

theorem zeroFrom_step (n k : Nat) (f : Nat → Nat) : upd (zeroFrom n f (n + k)) (n + k) 0 = zeroFrom n f (n + (k + 1)) := by
  funext i
  unfold upd zeroFrom
  by_cases h : i = n + k
  · rw [if_pos h, if_pos (by omega)]
  · rw [if_neg h]
    by_cases h2 : n ≤ i ∧ i < n + k
    · rw [if_pos h2, if_pos (by omega)]
    · rw [if_neg h2, if_neg (by omega)]
theorem zeroFrom_none (n m : Nat) (f : Nat → Nat) (h : m ≤ n) : zeroFrom n f m = f := by
  funext i
  unfold zeroFrom
  rw [if_neg (by omega)]
/-- The bits of grown words: the elder ones. -/
theorem zeroFrom_clean {w : World} {p b n c len : Nat} {f : Nat → Nat} (h : BSet w p b n c len f) (m i : Nat) (hi : len ≤ i) :
    ∀ j, i + 1 ≤ j → j < 64 * m → (zeroFrom n f m (j / 64)).testBit (j % 64) = false := by
  intro j h1 h2
  unfold zeroFrom
  split
  · exact Nat.zero_testBit _
  · exact h.clean j (by omega) (by omega)

set_option maxRecDepth 100000 in
set_option maxRecDepth 100000 in
set_option maxHeartbeats 1000000 in
theorem extend_room {w : World} {p b n c len : Nat} {f : Nat → Nat} (h : BSet w p b n c len f) (i : Nat) (hi : len ≤ i) (hl : i < 1000000) (hc : wn (i + 1) ≤ c) (hcm : c ≤ 1000000) :
    Calls Try.prog 53 #[.pointer (some ⟨p, 0, none⟩), .int .u64 i] w fun e w' => e = .returned (.tuple #[]) ∧
      BSet w' p b (wn (i + 1)) c (i + 1) (zeroFrom n f (wn (i + 1))) ∧ Only [p, b] w w' := by
  have h0 := h.len_cell
  have h1 := h.set_cell
  have z0 := h.free 0
  have z1 := h.free 1
  have hnn : n ≤ wn (i + 1) := by rw [h.n_eq]; unfold wn; omega
  have hnl := fun w => Lib.run_eql_slice_nil (P := Try.prog) w 22 25 (some ⟨b, 0, none⟩) n c 0 0 Try.underlying22
  have H := Lib.hid h
  clear h
  generalize hm : wn (i + 1) = m at *
  have HM := Lib.hid hm
  clear hm
  go_enter Try.func53, Try.ntmps53
  go_wp2_with fail
  refine (cap_any _).mono ?_; rintro e w' ⟨rfl, rfl⟩
  have hcp : decide ((18446744073709551615 : Int) ≤ (i : Int)) = false := by apply decide_eq_false; omega
  go_wp2_with fail
  clear hcp
  rw [show (i : Int) + 1 = ((i + 1 : Nat) : Int) by omega]
  refine (wordsNeeded_any _ _ (by omega)).mono ?_; rintro e w' ⟨rfl, rfl⟩
  rw [HM.out]
  by_cases hnm : n < m
  · obtain ⟨T, hst⟩ := H.out.st
    have HST := Lib.hid hst
    clear hst
    go_wp2_with fail
    go_loopw [7, 58] (fun _ kv wr => ∃ k : Nat, k ≤ m - n ∧ kv = .int .i64 k ∧ Hid (Blk wr p #[.int .u64 len, .slice (some ⟨b, 0, none⟩) m c] T ∧ Wd .u64 wr b c (zeroFrom n f (n + k)) ∧ Only [p, b] w wr)) (fun _ kv _ => (m - n) - (intOf kv).toNat)
    case atStart =>
      refine ⟨0, by omega, rfl, HST.out.set 1 _, ?_, (Only.refl _ _).setCell (Or.inl (by simp)) _⟩
      rw [zeroFrom_none _ _ _ (by omega)]
      exact H.out.wd.other H.out.ne _
    case round =>
      obtain ⟨k, hk, rfl, hB⟩ := hrel
      obtain ⟨hb1, hb2, hb3⟩ := hB.out
      have HB : Hid (Blk wr p #[.int .u64 len, .slice (some ⟨b, 0, none⟩) m c] T ∧ Wd .u64 wr b c (zeroFrom n f (n + k)) ∧ Only [p, b] w wr) := ⟨hb1, hb2, hb3⟩
      clear hB
      have c0 : wr.cell? ⟨p, 0, none⟩ = some (.int .u64 len) := hb1.cell rfl
      have c1 : wr.cell? ⟨p, 1, none⟩ = some (.slice (some ⟨b, 0, none⟩) m c) := hb1.cell rfl
      have y0 := hb1.free 0
      by_cases hkm : k < m - n
      · have c2 := hb2.cell (i := n + k) (by omega)
        have y2 := hb2.free (n + k)
        clear hb1 hb2 hb3
        go_wp2_with fail
        go_roundw
        case rel =>
          refine ⟨k + 1, by omega, by go_num, HB.out.1.other (fun e => H.out.ne e.symm) _, ?_, HB.out.2.2.setCell (Or.inl (by simp)) _⟩
          have := HB.out.2.1.set (n + k) 0
          rwa [zeroFrom_step] at this
        case measure => simp [intOf]; omega
      · have hkk : n + k = m := by omega
        have HK := Lib.hid hkk
        clear hb1 hb2 hb3 hkk
        go_wp2_with fail
        go_end0
        have hr := HB.out
        rw [HK.out] at hr
        refine ⟨rfl, ⟨⟨T, hr.1.set 0 _⟩, hr.2.1.other H.out.ne _, H.out.ne, HM.out.symm, hc, zeroFrom_small _ _ _ H.out.small, zeroFrom_clean H.out m i hi⟩, hr.2.2.setCell (Or.inl (by simp)) _⟩
  · obtain ⟨T, hst⟩ := H.out.st
    have HST := Lib.hid hst
    clear hst
    go_wp2_with fail
    go_end0
    refine ⟨rfl, ⟨⟨T, (HST.out.set 1 _).set 0 _⟩, ?_, H.out.ne, HM.out.symm, hc, zeroFrom_small _ _ _ H.out.small, zeroFrom_clean H.out m i hi⟩, ((Only.refl _ _).setCell (Or.inl (by simp)) _).setCell (Or.inl (by simp)) _⟩
    rw [zeroFrom_none _ _ _ (by omega)]
    exact (H.out.wd.other H.out.ne _).other H.out.ne _

set_option maxRecDepth 100000 in
set_option maxRecDepth 100000 in
set_option maxHeartbeats 1000000 in
theorem extend_new {w : World} {p b n c len : Nat} {f : Nat → Nat} (h : BSet w p b n c len f) (i : Nat) (hi : len ≤ i) (hl : i < 1000000) (hc : c < wn (i + 1)) :
    Calls Try.prog 53 #[.pointer (some ⟨p, 0, none⟩), .int .u64 i] w fun e w' => e = .returned (.tuple #[]) ∧
      BSet w' p w.heap.size (wn (i + 1)) (2 * wn (i + 1)) (i + 1) (put (fun _ => 0) 0 ((List.range n).map fun j => f (0 + j))) ∧ Only [p] w w' := by
  have h0 := h.len_cell
  have h1 := h.set_cell
  have z0 := h.free 0
  have z1 := h.free 1
  have hnc := h.nc
  have hplt := h.plt
  have hnl := fun w => Lib.run_eql_slice_nil (P := Try.prog) w 22 25 (some ⟨b, 0, none⟩) n c 0 0 Try.underlying22
  have H := Lib.hid h
  clear h
  generalize hm : wn (i + 1) = m at *
  have hmb : m ≤ 20000 := by rw [← hm]; unfold wn; omega
  have HM := Lib.hid hm
  clear hm
  have hmk : ∀ w, (Instr.makeSlice 22 (.int .i64 (m : Int)) (.int .i64 (2 * (m : Int)))).run Try.prog w = .ok (.slice (some ⟨w.heap.size, 0, none⟩) m (2 * m)) (w.alloc (.cells (madeCells #[.int .u64 0] (2 * m)) 25)) := by
    intro w
    rw [show 2 * (m : Int) = ((2 * m : Nat) : Int) by omega]
    exact make_u64 m (2 * m) w (by omega) (by omega)
  have hcopy : ∀ ty, (Builtin.copy_ #[22, 22] ty #[.slice (some ⟨w.heap.size, 0, none⟩) m (2 * m), .slice (some ⟨b, 0, none⟩) n c]).run Try.prog (w.alloc (.cells (madeCells #[.int .u64 0] (2 * m)) 25)) =
      .ok (.int .i64 (n : Int)) ((w.alloc (.cells (madeCells #[.int .u64 0] (2 * m)) 25)).setCells w.heap.size 0 (((List.range n).map fun j => f (0 + j)).map fun n : Nat => Value.int .u64 (n : Int))) := fun ty =>
    run_copy_wd (P := Try.prog) (K := .u64) (f := fun _ => 0) (c := 2 * m) 22 ty 25 Try.underlying22 size69 ⟨_, _, Blk.new _ _ _, size_madeCells _ _, made_cells _⟩ (H.out.wd.alloc _) 0 0 m (2 * m) n c n (by show n = min n m; omega) (by omega) (by omega)
  have ho : Only [p] w ((w.alloc (.cells (madeCells #[.int .u64 0] (2 * m)) 25)).setCells w.heap.size 0 (((List.range n).map fun j => f (0 + j)).map fun n : Nat => Value.int .u64 (n : Int))) :=
    Only.setCells (Or.inr (Nat.le_refl _)) _ _ ((Only.refl _ _).alloc _)
  have hwd : Wd .u64 ((w.alloc (.cells (madeCells #[.int .u64 0] (2 * m)) 25)).setCells w.heap.size 0 (((List.range n).map fun j => f (0 + j)).map fun n : Nat => Value.int .u64 (n : Int))) w.heap.size (2 * m) (put (fun _ => 0) 0 ((List.range n).map fun j => f (0 + j))) :=
    Wd.setCells _ _ ⟨_, _, Blk.new _ _ _, size_madeCells _ _, made_cells _⟩
  obtain ⟨T, hst⟩ := H.out.st
  have hst2 : Blk ((w.alloc (.cells (madeCells #[.int .u64 0] (2 * m)) 25)).setCells w.heap.size 0 (((List.range n).map fun j => f (0 + j)).map fun n : Nat => Value.int .u64 (n : Int))) p #[.int .u64 len, .slice (some ⟨b, 0, none⟩) n c] T :=
    Blk.setCells (by omega) _ _ (hst.alloc _)
  generalize hW : ((w.alloc (.cells (madeCells #[.int .u64 0] (2 * m)) 25)).setCells w.heap.size 0 (((List.range n).map fun j => f (0 + j)).map fun n : Nat => Value.int .u64 (n : Int))) = W at *
  have d1 : W.cell? ⟨p, 1, none⟩ = some (.slice (some ⟨b, 0, none⟩) n c) := hst2.cell rfl
  have d0 : W.cell? ⟨p, 0, none⟩ = some (.int .u64 len) := hst2.cell rfl
  have e0 := hst2.free 0
  have e1 := hst2.free 1
  have HR : Hid (Only [p] w W ∧ Wd .u64 W w.heap.size (2 * m) (put (fun _ => 0) 0 ((List.range n).map fun j => f (0 + j))) ∧ Blk W p #[.int .u64 len, .slice (some ⟨b, 0, none⟩) n c] T) := ⟨ho, hwd, hst2⟩
  clear ho hwd hst2 hst hW
  go_enter Try.func53, Try.ntmps53
  go_wp2_with fail
  refine (cap_any _).mono ?_; rintro e w' ⟨rfl, rfl⟩
  have hcp : decide ((18446744073709551615 : Int) ≤ (i : Int)) = false := by apply decide_eq_false; omega
  go_wp2_with fail
  clear hcp
  rw [show (i : Int) + 1 = ((i + 1 : Nat) : Int) by omega]
  refine (wordsNeeded_any _ _ (by omega)).mono ?_; rintro e w' ⟨rfl, rfl⟩
  rw [HM.out]
  go_wp2_with fail
  go_end0
  refine ⟨rfl, ⟨⟨T, (HR.out.2.2.set 1 _).set 0 _⟩, (HR.out.2.1.other (by show p ≠ w.heap.size; omega) _).other (by show p ≠ w.heap.size; omega) _, by omega, HM.out.symm, by omega, ?_, ?_⟩, (HR.out.1.setCell (Or.inl (by simp)) _).setCell (Or.inl (by simp)) _⟩
  · intro j
    unfold put
    split
    · rename_i hj
      simp at hj
      simp [hj]
      exact H.out.small _
    · show (0 : Nat) < _; decide
  · intro j h1 h2
    unfold put
    split
    · rename_i hj
      simp at hj
      simp [hj]
      exact H.out.clean j (by omega) (by omega)
    · exact Nat.zero_testBit _
/-- What growth leaves of the bits: the same. -/
theorem grown_bit {w : World} {p b n c len : Nat} {f : Nat → Nat} (h : BSet w p b n c len f) (j : Nat) :
    bit (put (fun _ => 0) 0 ((List.range n).map fun j => f (0 + j))) j = (decide (j < len) && bit f j) := by
  unfold bit put
  by_cases hj : j / 64 < n
  · rw [if_pos (by simp; exact hj)]
    simp [hj]
    intro hl
    by_cases h1 : j < len
    · exact h1
    · rw [h.clean j (by omega) (by omega)] at hl; cases hl
  · rw [if_neg (by simp; omega)]
    have : ¬ j < len := by rw [h.n_eq] at hj; unfold wn at hj; omega
    simp [this]
theorem zeroFrom_bit {w : World} {p b n c len : Nat} {f : Nat → Nat} (h : BSet w p b n c len f) (m j : Nat) (hj : j < 64 * m) :
    bit (zeroFrom n f m) j = (decide (j < len) && bit f j) := by
  unfold bit zeroFrom
  by_cases h1 : j < len
  · have : j / 64 < n := by rw [h.n_eq]; unfold wn; omega
    rw [if_neg (by omega), decide_eq_true h1, Bool.true_and]
  · rw [decide_eq_false h1, Bool.false_and]
    by_cases h2 : n ≤ j / 64
    · rw [if_pos (by omega)]; exact Nat.zero_testBit _
    · rw [if_neg (by omega)]; exact h.clean j (by omega) (by omega)

/-- A bitset in memory, its blocks from B on: of so many bits, of which S are set. -/
def Bs (w : World) (B p len : Nat) (S : Nat → Bool) : Prop :=
  ∃ b n c f, BSet w p b n c len f ∧ B ≤ p ∧ B ≤ b ∧ c ≤ 200000 ∧ len ≤ 100000 ∧ ∀ j, S j = (decide (j < len) && bit f j)
theorem Bs.out {w : World} {B p len : Nat} {S : Nat → Bool} (h : Bs w B p len S) (j : Nat) (hj : len ≤ j) : S j = false := by
  obtain ⟨b, n, c, f, _, _, _, _, _, hS⟩ := h
  rw [hS, decide_eq_false (by omega), Bool.false_and]
theorem Bs.mono {w : World} {B B' p len : Nat} {S : Nat → Bool} (h : Bs w B p len S) (hB : B' ≤ B) : Bs w B' p len S := by
  obtain ⟨b, n, c, f, h1, h2, h3, h4⟩ := h
  exact ⟨b, n, c, f, h1, by omega, by omega, h4⟩
theorem Bs.congr {w : World} {B p len : Nat} {S S' : Nat → Bool} (h : Bs w B p len S) (hS : ∀ j, S' j = S j) : Bs w B p len S' := by
  obtain ⟨b, n, c, f, h1, h2, h3, h4, h5, h6⟩ := h
  exact ⟨b, n, c, f, h1, h2, h3, h4, h5, fun j => by rw [hS, h6]⟩
theorem Bs.same {w w' : World} {B p len : Nat} {S : Nat → Bool} (h : Bs w B p len S) (hb : Below w.heap.size w w') : Bs w' B p len S := by
  obtain ⟨b, n, c, f, h1, h2⟩ := h
  exact ⟨b, n, c, f, h1.below hb h1.plt h1.blt, h2⟩
theorem Bs.drewN {w : World} {B p len : Nat} {S : Nat → Bool} (h : Bs w B p len S) (k : Nat) : Bs (w.drewN k) B p len S := by
  obtain ⟨b, n, c, f, h1, h2⟩ := h
  exact ⟨b, n, c, f, h1.drewN k, h2⟩

theorem extend_any {w : World} {B p len : Nat} {S : Nat → Bool} (h : Bs w B p len S) (i : Nat) (hi : len ≤ i) (hl : i < 100000) (hB : B ≤ w.heap.size) :
    Calls Try.prog 53 #[.pointer (some ⟨p, 0, none⟩), .int .u64 i] w fun e w' => e = .returned (.tuple #[]) ∧
      Bs w' B p (i + 1) S ∧ Below B w w' := by
  obtain ⟨b, n, c, f, h1, h2, h3, h4, h5, hS⟩ := h
  by_cases hc : wn (i + 1) ≤ c
  · refine (extend_room h1 i hi (by omega) hc (by omega)).mono ?_
    rintro e w' ⟨rfl, g1, g2⟩
    refine ⟨rfl, ⟨b, _, c, _, g1, h2, h3, h4, by omega, fun j => ?_⟩, g2.below hB (by simp; omega)⟩
    rw [hS]
    by_cases hj : j < i + 1
    · rw [zeroFrom_bit h1 _ j (by unfold wn; omega), decide_eq_true hj, Bool.true_and]
    · rw [decide_eq_false hj, decide_eq_false (by omega), Bool.false_and]; rfl
  · refine (extend_new h1 i hi (by omega) (by omega)).mono ?_
    rintro e w' ⟨rfl, g1, g2⟩
    refine ⟨rfl, ⟨_, _, _, _, g1, h2, hB, by unfold wn; omega, by omega, fun j => ?_⟩, g2.below hB (by simp; omega)⟩
    rw [hS, grown_bit h1 j]
    by_cases hj : j < i + 1
    · rw [decide_eq_true hj, Bool.true_and]
    · rw [decide_eq_false hj, decide_eq_false (show ¬ j < len by omega), Bool.false_and]; rfl
end Go.Proofs.Ytbkodehcjhpcmaa.Q
