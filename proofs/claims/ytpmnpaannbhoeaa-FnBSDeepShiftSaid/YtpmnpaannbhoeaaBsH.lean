/- Difference, containment of equal sets, and the thin package's functions over them. -/
import Derived.Test.YtpmnpaannbhoeaaBsG
namespace Go.Proofs.Ytpmnpaannbhoeaa
open Go.RowKit Pop

set_option maxRecDepth 100000 in
set_option maxHeartbeats 1000000 in
theorem super_same {w : World} {B B' p q len : Nat} {S : Nat → Bool} (hp : Bs w B p len S) (hq : Bs w B' q len S) :
    Calls Try.prog 77 #[.pointer (some ⟨p, 0, none⟩), .pointer (some ⟨q, 0, none⟩)] w fun e w' => e = .returned (.bool true) ∧ ∃ k, w' = w.drewN k := by
  obtain ⟨b, n, c, f, h1, _, _, _, h5, hS⟩ := hp
  obtain ⟨b', n', c', f', h1', _, _, hc', _, hS'⟩ := hq
  obtain rfl : n = n' := by rw [h1.n_eq, h1'.n_eq]
  have hnw : n ≤ 20000 := by rw [h1.n_eq]; unfold wn; omega
  have hz : ∀ k, k < n → w.cell? ⟨b, k, none⟩ = some (.int .u64 (f k)) ∧ w.cell? ⟨b', k, none⟩ = some (.int .u64 (f k)) ∧ bits BinOp.and IntKind.u64 (f k : Int) (f k : Int) = (f k : Int) := fun k hk => by
    have e : f' k = f k := word_eq (h1'.small k) (h1.small k) fun j hj => by rw [word_bit h1 hS hk hj, word_bit h1' hS' hk hj]
    have := h1'.word hk
    rw [e] at this
    refine ⟨h1.word hk, this, ?_⟩
    rw [u64_and_nat _ _ (h1.small k) (h1.small k), Nat.and_self]
  have HZ := Lib.hid hz
  have x0 := h1.len_cell
  have x1 := h1.set_cell
  have y0 := h1'.len_cell
  have y1 := h1'.set_cell
  have hnc := h1'.nc
  have H1 := Lib.hid h1
  have H1' := Lib.hid h1'
  have HP : Hid (∀ (w : World) (o c : Nat), Calls Try.prog 89 #[.slice (some ⟨b', o, none⟩) 0 c] w fun e w' => e = .returned (.int .u64 0) ∧ w = w') := Lib.hid (fun (w : World) (o c : Nat) => popcnt_any (w := w) (b := b') (o := o) (n := 0) (c := c) (g := f) (fun i hi => absurd hi (by omega)) h1.small (by decide))
  clear h1 h1' hS hS' hz
  go_enter Try.func77, Try.ntmps77
  go_wp2_with fail
  refine (wordCount_any H1'.out.dirty (by omega)).mono ?_; rintro e w' ⟨rfl, rfl⟩
  go_wp2_with fail
  refine (wordCount_any H1.out.dirty (by omega)).mono ?_; rintro e w' ⟨rfl, rfl⟩
  go_wp2_with fail
  go_loopw [6, 7, 23] (fun _ _ iv wr => ∃ k d : Nat, k ≤ n ∧ iv = .int .i64 k ∧ wr = w.drewN d) (fun _ _ iv _ => n - (intOf iv).toNat)
  case atStart => exact ⟨0, 0, by omega, rfl, rfl⟩
  case round =>
    obtain ⟨k, d, hk, rfl, rfl⟩ := hrel
    by_cases hkn : k < n
    · have c1 := (HZ.out k hkn).1
      have c2 := (HZ.out k hkn).2.1
      have c3 := (HZ.out k hkn).2.2
      go_wp2_with fail
      go_roundw
      case rel => exact ⟨k + 1, d, by omega, by go_num, rfl⟩
      case measure => simp [intOf]; omega
    · have hkk : k = n := by omega
      have HK := Lib.hid hkk
      clear hkk
      go_wp2_with fail
      all_goals (refine (HP.out _ _ _).mono ?_; rintro e w' ⟨rfl, rfl⟩; go_wp2_with fail; go_ret; exact ⟨rfl, d, rfl⟩)

set_option maxHeartbeats 400000 in
theorem strict_same {w : World} {B B' p q len : Nat} {S : Nat → Bool} (hp : Bs w B p len S) (hq : Bs w B' q len S) :
    Calls Try.prog 78 #[.pointer (some ⟨p, 0, none⟩), .pointer (some ⟨q, 0, none⟩)] w fun e w' => e = .returned (.bool false) ∧ ∃ k, w' = w.drewN k := by
  have h1 := count_any hp
  have h2 := count_any hq
  clear hp hq
  go_enter Try.func78, Try.ntmps78
  go_wp2_with fail
  refine h1.mono ?_; rintro e w' ⟨rfl, rfl⟩
  go_wp2_with fail
  refine h2.mono ?_; rintro e w' ⟨rfl, rfl⟩
  go_wp2_with fail
  go_ret
  exact ⟨rfl, 0, rfl⟩

def wDif (x y : Nat) : Nat := x &&& (18446744073709551615 - y)
theorem wDif_lt {x y : Nat} (hx : x < 18446744073709551616) : wDif x y < 18446744073709551616 := Nat.lt_of_le_of_lt Nat.and_le_left hx
theorem wDif_I (x y : Nat) (hx : x < 18446744073709551616) (hy : y < 18446744073709551616) : bits BinOp.andNot IntKind.u64 (x : Int) (y : Int) = (wDif x y : Int) := u64_andNot_nat x y hx hy
theorem wDif_tb (x y j : Nat) (hy : y < 18446744073709551616) (hj : j < 64) : (wDif x y).testBit j = (x.testBit j && !y.testBit j) := by rw [wDif, Nat.testBit_and, not_tb _ _ hy hj]

set_option maxRecDepth 100000 in
set_option maxHeartbeats 1000000 in
theorem diff_a {w : World} {px bx nx cx lx py bY ny cy ly : Nat} {fx fy : Nat → Nat} (hx : BSet w px bx nx cx lx fx) (hy : BSet w py bY ny cy ly fy) (hle : nx < ny) (hl : ly ≤ 1000000) (hlx : lx ≤ 1000000) :
    Calls Try.prog 72 #[.pointer (some ⟨px, 0, none⟩), .pointer (some ⟨py, 0, none⟩)] w fun e w' => ∃ r b' g, e = .returned (.pointer (some ⟨r, 0, none⟩)) ∧ BSet w' r b' nx nx lx g ∧
      (∀ i, i < nx → g i = if i < nx then wDif (fx i) (fy i) else fx i) ∧ Below w.heap.size w w' ∧ w.heap.size ≤ r ∧ w.heap.size ≤ b' := by
  have HX := Lib.hid hx
  have HY := Lib.hid hy
  have hnx : nx ≤ 20000 := by rw [hx.n_eq]; unfold wn; omega
  have hny : ny ≤ 20000 := by rw [hy.n_eq]; unfold wn; omega
  have hdec : decide (nx < ny) = true := decide_eq_true hle
  clear hx hy
  go_enter Try.func72, Try.ntmps72
  go_wp2_with fail
  refine (panicIfNull_any _ _).mono ?_; rintro e w' ⟨rfl, rfl⟩
  go_wp2_with fail
  refine (panicIfNull_any _ _).mono ?_; rintro e w' ⟨rfl, rfl⟩
  go_wp2_with fail
  refine (clone_any HX.out hlx).mono ?_
  rintro e w2 ⟨r, b', g0, rfl, hB, hg0, ho, hr, hb'⟩
  have HO : Hid (Below w.heap.size w w2) := ho
  have HB : Hid (BDirty w2 r b' nx nx lx g0) := hB.dirty
  have HG := Lib.hid hg0
  have HRB : Hid (w.heap.size ≤ r ∧ w.heap.size ≤ b') := ⟨hr, hb'⟩
  clear hg0 hB ho hr hb'
  go_wp2_with fail
  refine (wordCount_any (HY.out.below HO.out HY.out.plt HY.out.blt).dirty hl).mono ?_; rintro e w' ⟨rfl, rfl⟩
  go_wp2_with fail
  refine (wordCount_any (HX.out.below HO.out HX.out.plt HX.out.blt).dirty hlx).mono ?_; rintro e w' ⟨rfl, rfl⟩
  go_wp2_with fail
  refine (wordCount_any (HX.out.below HO.out HX.out.plt HX.out.blt).dirty hlx).mono ?_; rintro e w' ⟨rfl, rfl⟩
  go_wp2_with fail
  go_loopw [6] (fun iv wr => ∃ k : Nat, k ≤ nx ∧ iv = .int .i64 k ∧ Hid (BDirty wr r b' nx nx lx (upto k (fun i => wDif (fx i) (fy i)) g0) ∧ Below w.heap.size w wr)) (fun iv _ => nx - (intOf iv).toNat)
  case atStart => exact ⟨0, by omega, rfl, by rw [upto_zero]; exact HB.out, HO.out⟩
  case round =>
    obtain ⟨k, hk, rfl, hR⟩ := hrel
    have HR : Hid (BDirty wr r b' nx nx lx (upto k (fun i => wDif (fx i) (fy i)) g0) ∧ Below w.heap.size w wr) := hR
    clear hR
    by_cases hkn : k < nx
    · have HX2 := HX.out.below HR.out.2 HX.out.plt HX.out.blt
      have HY2 := HY.out.below HR.out.2 HY.out.plt HY.out.blt
      have c0 := HX2.set_cell
      have c1 := HX2.word (i := k) (by omega)
      have c2 := HY2.set_cell
      have c3 := HY2.word (i := k) (by omega)
      have c4 := HR.out.1.set_cell
      have c5 := HR.out.1.word (i := k) (by omega)
      have c6 := HR.out.1.wd.free k
      clear HX2 HY2
      go_wp2_with fail
      have k0 : (0 : Int) ≤ (k : Int) := by omega
      have k1 : (k : Int) < (nx : Int) := by omega
      have k2 : (k : Int) < (ny : Int) := by omega
      refine wp_region_still_tail 21 (by kernel_rfl) (by kernel_rfl) ?_
      simp only [List.take_succ_cons, List.take_zero, List.drop_succ_cons, List.drop_zero]
      repeat still_step
      refine wpStill_nil ?_
      change wpList _ _ _ _ _ wr.drew
      have HE := Lib.hid (wDif_I (fx k) (fy k) (HX.out.small _) (HY.out.small _))
      rw [HE.out]
      clear k0 k1 k2
      go_wp2_with fail
      go_roundw
      case rel =>
        refine ⟨k + 1, by omega, by go_num, ?_, ((Only.refl [b'] wr).drewN 1 |>.setCell (Or.inl (by simp)) _).below (B := w.heap.size) HR.out.2.size (by simp; exact HRB.out.2) |> HR.out.2.trans⟩
        have := (HR.out.1.drewN 1).store k _ (wDif_lt (y := fy k) (HX.out.small k))
        rwa [upto_step k (fun i => wDif (fx i) (fy i)) g0] at this
      case measure => simp [intOf]; omega
    · have hkk : k = nx := by omega
      have HK := Lib.hid hkk
      clear hkk
      go_wp2_with fail
      go_ret
      have hd := HR.out.1
      rw [HK.out] at hd
      refine ⟨r, b', _, rfl, hd.whole (fun i h1 h2 => ?_), fun i hi => ?_, HR.out.2, HRB.out.1, HRB.out.2⟩
      · unfold upto
        split
        · rw [wDif_tb _ _ _ (HY.out.small _) (Nat.mod_lt _ (by decide)), HX.out.clean i h1 h2]; rfl
        · rw [HG.out _ (by omega)]; exact HX.out.clean i h1 h2
      · unfold upto
        by_cases h : i < nx
        · rw [if_pos h, if_pos h]
        · rw [if_neg h, if_neg h]; exact HG.out i hi

set_option maxRecDepth 100000 in
set_option maxHeartbeats 1000000 in
theorem diff_b {w : World} {px bx nx cx lx py bY ny cy ly : Nat} {fx fy : Nat → Nat} (hx : BSet w px bx nx cx lx fx) (hy : BSet w py bY ny cy ly fy) (hle : ny ≤ nx) (hl : ly ≤ 1000000) (hlx : lx ≤ 1000000) :
    Calls Try.prog 72 #[.pointer (some ⟨px, 0, none⟩), .pointer (some ⟨py, 0, none⟩)] w fun e w' => ∃ r b' g, e = .returned (.pointer (some ⟨r, 0, none⟩)) ∧ BSet w' r b' nx nx lx g ∧
      (∀ i, i < nx → g i = if i < ny then wDif (fx i) (fy i) else fx i) ∧ Below w.heap.size w w' ∧ w.heap.size ≤ r ∧ w.heap.size ≤ b' := by
  have HX := Lib.hid hx
  have HY := Lib.hid hy
  have hnx : nx ≤ 20000 := by rw [hx.n_eq]; unfold wn; omega
  have hny : ny ≤ 20000 := by rw [hy.n_eq]; unfold wn; omega
  have hdec : decide (nx < ny) = false := decide_eq_false (by omega)
  clear hx hy
  go_enter Try.func72, Try.ntmps72
  go_wp2_with fail
  refine (panicIfNull_any _ _).mono ?_; rintro e w' ⟨rfl, rfl⟩
  go_wp2_with fail
  refine (panicIfNull_any _ _).mono ?_; rintro e w' ⟨rfl, rfl⟩
  go_wp2_with fail
  refine (clone_any HX.out hlx).mono ?_
  rintro e w2 ⟨r, b', g0, rfl, hB, hg0, ho, hr, hb'⟩
  have HO : Hid (Below w.heap.size w w2) := ho
  have HB : Hid (BDirty w2 r b' nx nx lx g0) := hB.dirty
  have HG := Lib.hid hg0
  have HRB : Hid (w.heap.size ≤ r ∧ w.heap.size ≤ b') := ⟨hr, hb'⟩
  clear hg0 hB ho hr hb'
  go_wp2_with fail
  refine (wordCount_any (HY.out.below HO.out HY.out.plt HY.out.blt).dirty hl).mono ?_; rintro e w' ⟨rfl, rfl⟩
  go_wp2_with fail
  refine (wordCount_any (HX.out.below HO.out HX.out.plt HX.out.blt).dirty hlx).mono ?_; rintro e w' ⟨rfl, rfl⟩
  go_wp2_with fail
  go_loopw [6] (fun iv wr => ∃ k : Nat, k ≤ ny ∧ iv = .int .i64 k ∧ Hid (BDirty wr r b' nx nx lx (upto k (fun i => wDif (fx i) (fy i)) g0) ∧ Below w.heap.size w wr)) (fun iv _ => ny - (intOf iv).toNat)
  case atStart => exact ⟨0, by omega, rfl, by rw [upto_zero]; exact HB.out, HO.out⟩
  case round =>
    obtain ⟨k, hk, rfl, hR⟩ := hrel
    have HR : Hid (BDirty wr r b' nx nx lx (upto k (fun i => wDif (fx i) (fy i)) g0) ∧ Below w.heap.size w wr) := hR
    clear hR
    by_cases hkn : k < ny
    · have HX2 := HX.out.below HR.out.2 HX.out.plt HX.out.blt
      have HY2 := HY.out.below HR.out.2 HY.out.plt HY.out.blt
      have c0 := HX2.set_cell
      have c1 := HX2.word (i := k) (by omega)
      have c2 := HY2.set_cell
      have c3 := HY2.word (i := k) (by omega)
      have c4 := HR.out.1.set_cell
      have c5 := HR.out.1.word (i := k) (by omega)
      have c6 := HR.out.1.wd.free k
      clear HX2 HY2
      go_wp2_with fail
      have k0 : (0 : Int) ≤ (k : Int) := by omega
      have k1 : (k : Int) < (nx : Int) := by omega
      have k2 : (k : Int) < (ny : Int) := by omega
      refine wp_region_still_tail 21 (by kernel_rfl) (by kernel_rfl) ?_
      simp only [List.take_succ_cons, List.take_zero, List.drop_succ_cons, List.drop_zero]
      repeat still_step
      refine wpStill_nil ?_
      change wpList _ _ _ _ _ wr.drew
      have HE := Lib.hid (wDif_I (fx k) (fy k) (HX.out.small _) (HY.out.small _))
      rw [HE.out]
      clear k0 k1 k2
      go_wp2_with fail
      go_roundw
      case rel =>
        refine ⟨k + 1, by omega, by go_num, ?_, ((Only.refl [b'] wr).drewN 1 |>.setCell (Or.inl (by simp)) _).below (B := w.heap.size) HR.out.2.size (by simp; exact HRB.out.2) |> HR.out.2.trans⟩
        have := (HR.out.1.drewN 1).store k _ (wDif_lt (y := fy k) (HX.out.small k))
        rwa [upto_step k (fun i => wDif (fx i) (fy i)) g0] at this
      case measure => simp [intOf]; omega
    · have hkk : k = ny := by omega
      have HK := Lib.hid hkk
      clear hkk
      go_wp2_with fail
      go_ret
      have hd := HR.out.1
      rw [HK.out] at hd
      refine ⟨r, b', _, rfl, hd.whole (fun i h1 h2 => ?_), fun i hi => ?_, HR.out.2, HRB.out.1, HRB.out.2⟩
      · unfold upto
        split
        · rw [wDif_tb _ _ _ (HY.out.small _) (Nat.mod_lt _ (by decide)), HX.out.clean i h1 h2]; rfl
        · rw [HG.out _ (by omega)]; exact HX.out.clean i h1 h2
      · unfold upto
        by_cases h : i < ny
        · rw [if_pos h, if_pos h]
        · rw [if_neg h, if_neg h]; exact HG.out i hi

theorem diff_any {w : World} {B B' p q la lb : Nat} {S S' : Nat → Bool} (hp : Bs w B p la S) (hq : Bs w B' q lb S') :
    Calls Try.prog 72 #[.pointer (some ⟨p, 0, none⟩), .pointer (some ⟨q, 0, none⟩)] w fun e w' => ∃ r, e = .returned (.pointer (some ⟨r, 0, none⟩)) ∧
      Bs w' w.heap.size r la (fun j => S j && !S' j) ∧ Below w.heap.size w w' := by
  obtain ⟨b1, n1, c1, f1, h1, _, _, _, l1, s1⟩ := hp
  obtain ⟨b2, n2, c2, f2, h2, _, _, _, l2, s2⟩ := hq
  have e1 := h1.n_eq
  have e2 := h2.n_eq
  unfold wn at e1 e2
  have key : ∀ g : Nat → Nat, (∀ i, i < n1 → g i = if i < n2 then wDif (f1 i) (f2 i) else f1 i) → ∀ j, (S j && !S' j) = (decide (j < la) && bit g j) := by
    intro g hg j
    rw [s1, s2]
    by_cases hj : j < la
    · unfold bit
      rw [hg _ (by omega), decide_eq_true hj]
      by_cases h3 : j / 64 < n2
      · rw [if_pos h3, wDif_tb _ _ _ (h2.small _) (Nat.mod_lt _ (by decide))]
        by_cases h4 : j < lb
        · simp [h4]
        · rw [decide_eq_false h4, h2.clean j (by omega) (by omega)]; simp
      · rw [if_neg h3, decide_eq_false (show ¬ j < lb by omega)]; simp
    · rw [decide_eq_false hj]; rfl
  rcases Nat.lt_or_ge n1 n2 with hn | hn
  · refine (diff_a h1 h2 hn (by omega) (by omega)).mono ?_
    rintro e w' ⟨r, b', g, rfl, hB, hg, hO, hr, hb'⟩
    exact ⟨r, rfl, ⟨b', _, _, g, hB, hr, hb', by omega, l1, key g fun i hi => by rw [hg i hi, if_pos hi, if_pos (by omega)]⟩, hO⟩
  · refine (diff_b h1 h2 hn (by omega) (by omega)).mono ?_
    rintro e w' ⟨r, b', g, rfl, hB, hg, hO, hr, hb'⟩
    exact ⟨r, rfl, ⟨b', _, _, g, hB, hr, hb', by omega, l1, key g hg⟩, hO⟩

set_option maxHeartbeats 400000 in
theorem iCount {w : World} {v : Value} {len : Nat} {S : Nat → Bool} (h : IsBits w v len S)  :
    Calls Try.prog 26 #[v] w fun e w' => e = .returned (.int .u64 (cd S len)) ∧ Below w.heap.size w w' := by
  have H := Lib.hid h
  obtain ⟨so, n, cp, rfl⟩ := h.shape
  clear h
  go_enter Try.func26, Try.ntmps26
  go_wp2_with fail
  refine (set64_any (H.out.same ((Below.refl _ _).alloc (Nat.le_refl _) _))).mono ?_
  rintro e w1 ⟨p, rfl, hB, hb⟩
  simp at hB hb
  have HB : Hid (Bs w1 (w.heap.size + 1) p len S ∧ Below w.heap.size w w1) := ⟨hB, ((Below.refl _ _).alloc (Nat.le_refl _) _).trans (hb.mono (by omega))⟩
  clear hB hb
  go_wp2_with fail
  refine (count_any HB.out.1).mono ?_
  rintro e w2 ⟨rfl, rfl⟩
  go_wp2_with fail
  go_ret
  exact ⟨rfl, HB.out.2⟩

set_option maxHeartbeats 400000 in
theorem iNone {w : World} {v : Value} {len : Nat} {S : Nat → Bool} (h : IsBits w v len S) (h0 : ∀ j, S j = false) :
    Calls Try.prog 41 #[v] w fun e w' => e = .returned (.bool true) ∧ Below w.heap.size w w' := by
  have H := Lib.hid h
  obtain ⟨so, n, cp, rfl⟩ := h.shape
  clear h
  go_enter Try.func41, Try.ntmps41
  go_wp2_with fail
  refine (set64_any (H.out.same ((Below.refl _ _).alloc (Nat.le_refl _) _))).mono ?_
  rintro e w1 ⟨p, rfl, hB, hb⟩
  simp at hB hb
  have HB : Hid (Bs w1 (w.heap.size + 1) p len S ∧ Below w.heap.size w w1) := ⟨hB, ((Below.refl _ _).alloc (Nat.le_refl _) _).trans (hb.mono (by omega))⟩
  clear hB hb
  go_wp2_with fail
  refine (none_any HB.out.1 h0).mono ?_
  rintro e w2 ⟨rfl, rfl⟩
  go_wp2_with fail
  go_ret
  exact ⟨rfl, HB.out.2⟩

set_option maxRecDepth 100000 in
set_option maxHeartbeats 1000000 in
theorem iDiff {w : World} {v v' : Value} {la lb : Nat} {S S' : Nat → Bool} (ha : IsBits w v la S) (hb : IsBits w v' lb S') :
    Calls Try.prog 37 #[v, v'] w (Gives w (la) fun j => S j && !S' j) := by
  obtain ⟨L, hL⟩ : ∃ L, L = la := ⟨_, rfl⟩
  rw [← hL]
  have HL := Lib.hid hL
  clear hL
  have HA := Lib.hid ha
  have HB := Lib.hid hb
  obtain ⟨so, n, cp, rfl⟩ := ha.shape
  obtain ⟨so', n', cp', rfl⟩ := hb.shape
  clear ha hb
  go_enter Try.func37, Try.ntmps37
  go_wp2_with fail
  have HW := Lib.hid (boxed_new w la lb so n cp so' n' cp')
  generalize (((w.alloc (Obj.cells #[Value.int IntKind.u64 ↑la, Value.slice so n cp] 25)).alloc (Obj.cells #[Value.int IntKind.u64 ↑lb, Value.slice so' n' cp'] 25)).alloc (Obj.cells #[Value.int IntKind.u64 0, Value.slice none 0 0] 25)) = W at *
  obtain ⟨a0, a1, b0, b1⟩ := HW.out.cells (Below.refl _ _)
  have hR : w.heap.size + 1 + 1 < W.heap.size := by rw [HW.out.2.1]; omega
  go_region_held3 (fun w' => w'.cell? ⟨w.heap.size, 0, none⟩ = some (.int .u64 la) ∧ w'.cell? ⟨w.heap.size, 1, none⟩ = some (.slice so n cp) ∧ w'.cell? ⟨w.heap.size + 1, 0, none⟩ = some (.int .u64 lb) ∧ w'.cell? ⟨w.heap.size + 1, 1, none⟩ = some (.slice so' n' cp'))
    (first | exact ⟨a0, a1, b0, b1⟩ | exact HW.out.cells2 G4.out.1 _ _ | exact HW.out.cells G4.out.1 | exact HW.out.cells G3.out.2 | exact HW.out.cells G2.out.2.2 | exact HW.out.cells G1.out.2)
    (first
      | (go_at_call_of 45 (Value.agg #[Value.int IntKind.u64 la, Value.slice so n cp]); refine (set64_any (HA.out.same HW.out.1.drew)).mono ?_; rintro e w1 ⟨p1, rfl, hB1, hb1⟩; have G1 : Hid (Bs w1 0 p1 la S ∧ Below W.heap.size W w1) := ⟨hB1.mono (Nat.zero_le _), (Below.refl W.heap.size W).drew.trans hb1⟩; clear hB1 hb1)
      | (go_at_call_of 45 (Value.agg #[Value.int IntKind.u64 lb, Value.slice so' n' cp']); refine (set64_any (HB.out.same (HW.out.1.trans (G1.out.2.mono HW.out.1.size)))).mono ?_; rintro e w2 ⟨p2, rfl, hB2, hb2⟩; have G2 : Hid (Bs w2 0 p1 la S ∧ Bs w2 0 p2 lb S' ∧ Below W.heap.size W w2) := ⟨G1.out.1.same hb2, hB2.mono (Nat.zero_le _), G1.out.2.trans (hb2.mono G1.out.2.size)⟩; clear hB2 hb2)
      | (go_at_call 72; refine (diff_any G2.out.1 G2.out.2.1).mono ?_; rintro e w3 ⟨r, rfl, hB3, hb3⟩; have G3 : Hid (Bs w3 0 r L (fun j => S j && !S' j) ∧ Below W.heap.size W w3) := ⟨by rw [HL.out]; exact hB3.mono (Nat.zero_le _), G2.out.2.2.trans (hb3.mono G2.out.2.2.size)⟩; clear hB3 hb3)
      | (go_at_call 47; refine (said64_any G3.out.1).mono ?_; rintro e w4 ⟨v4, rfl, hv, hb4⟩; obtain ⟨so4, n4, cp4, rfl⟩ := (hv w4 (fun _ _ _ => rfl)).shape; have G4 : Hid (Below W.heap.size W w4 ∧ Blk w4 (w.heap.size + 1 + 1) #[Value.int IntKind.u64 0, Value.slice none 0 0] 25 ∧ ∀ W' : World, (∀ k, w3.heap.size ≤ k → k < w4.heap.size → W'.heap[k]? = w4.heap[k]?) → IsBits W' (.agg #[.int .u64 L, .slice so4 n4 cp4]) L (fun j => S j && !S' j)) := ⟨G3.out.2.trans (hb4.mono G3.out.2.size), (HW.out.2.2.2.2.below G3.out.2 hR).below hb4 (Nat.lt_of_lt_of_le hR G3.out.2.size), hv⟩; clear hv hb4; have e0 : w4.cell? ⟨w.heap.size + 1 + 1, 0, none⟩ = some (.int .u64 0) := G4.out.2.1.cell rfl; have e1 : w4.cell? ⟨w.heap.size + 1 + 1, 1, none⟩ = some (.slice none 0 0) := G4.out.2.1.cell rfl; have f0 := G4.out.2.1.free 0; have f1 := G4.out.2.1.free 1))
  have HE := Lib.hid (gives_end (w := w) (by omega) (Nat.lt_of_lt_of_le hR G3.out.2.size) G4.out.2.1 G4.out.2.2 (HW.out.1.trans (G4.out.1.mono HW.out.1.size)))
  go_wp2_with fail
  have d0 := HE.out.1.cell (i := 0) rfl
  have d1 := HE.out.1.cell (i := 1) rfl
  refine bodyPost_ret (v := .agg #[.int .u64 L, .slice so4 n4 cp4]) ?_ rfl HE.out.2
  simp at d0 d1
  simp [results, Try.results37, go_sem, d0, d1]

set_option maxRecDepth 100000 in
set_option maxHeartbeats 1000000 in
theorem iEqual {w : World} {v v' : Value} {la : Nat} {S : Nat → Bool} (ha : IsBits w v la S) (hb : IsBits w v' la S) :
    Calls Try.prog 42 #[v, v'] w fun e w' => e = .returned (.bool true) ∧ Below w.heap.size w w' := by
  have HA := Lib.hid ha
  have HB := Lib.hid hb
  obtain ⟨so, n, cp, rfl⟩ := ha.shape
  obtain ⟨so', n', cp', rfl⟩ := hb.shape
  clear ha hb
  go_enter Try.func42, Try.ntmps42
  go_wp2_with fail
  have HW := Lib.hid (boxed2_new w la la so n cp so' n' cp')
  generalize ((w.alloc (Obj.cells #[Value.int IntKind.u64 ↑la, Value.slice so n cp] 25)).alloc (Obj.cells #[Value.int IntKind.u64 ↑la, Value.slice so' n' cp'] 25)) = W at *
  obtain ⟨a0, a1, b0, b1⟩ := HW.out.cells (Below.refl _ _)
  go_region_held3 (fun w' => w'.cell? ⟨w.heap.size, 0, none⟩ = some (.int .u64 la) ∧ w'.cell? ⟨w.heap.size, 1, none⟩ = some (.slice so n cp) ∧ w'.cell? ⟨w.heap.size + 1, 0, none⟩ = some (.int .u64 la) ∧ w'.cell? ⟨w.heap.size + 1, 1, none⟩ = some (.slice so' n' cp'))
    (first | exact ⟨a0, a1, b0, b1⟩ | exact HW.out.cells G3.out | exact HW.out.cells G2.out.2.2 | exact HW.out.cells G1.out.2)
    (first
      | (go_at_call_of 45 (Value.agg #[Value.int IntKind.u64 la, Value.slice so n cp]); refine (set64_any (HA.out.same HW.out.1.drew)).mono ?_; rintro e w1 ⟨p1, rfl, hB1, hb1⟩; have G1 : Hid (Bs w1 0 p1 la S ∧ Below W.heap.size W w1) := ⟨hB1.mono (Nat.zero_le _), (Below.refl W.heap.size W).drew.trans hb1⟩; clear hB1 hb1)
      | (go_at_call_of 45 (Value.agg #[Value.int IntKind.u64 la, Value.slice so' n' cp']); refine (set64_any (HB.out.same (HW.out.1.trans (G1.out.2.mono HW.out.1.size)))).mono ?_; rintro e w2 ⟨p2, rfl, hB2, hb2⟩; have G2 : Hid (Bs w2 0 p1 la S ∧ Bs w2 0 p2 la S ∧ Below W.heap.size W w2) := ⟨G1.out.1.same hb2, hB2.mono (Nat.zero_le _), G1.out.2.trans (hb2.mono G1.out.2.size)⟩; clear hB2 hb2)
      | (go_at_call 76; refine (equal_same G2.out.1 G2.out.2.1).mono ?_; rintro e w3 ⟨rfl, d3, rfl⟩; have G3 : Hid (Below W.heap.size W (w2.drewN d3)) := Lib.hid (below_drewN G2.out.2.2 d3)))
  go_wp2_with fail
  go_ret
  exact ⟨rfl, HW.out.1.trans (G3.out.mono HW.out.1.size)⟩

set_option maxRecDepth 100000 in
set_option maxHeartbeats 1000000 in
theorem iSuper {w : World} {v v' : Value} {la : Nat} {S : Nat → Bool} (ha : IsBits w v la S) (hb : IsBits w v' la S) :
    Calls Try.prog 43 #[v, v'] w fun e w' => e = .returned (.bool true) ∧ Below w.heap.size w w' := by
  have HA := Lib.hid ha
  have HB := Lib.hid hb
  obtain ⟨so, n, cp, rfl⟩ := ha.shape
  obtain ⟨so', n', cp', rfl⟩ := hb.shape
  clear ha hb
  go_enter Try.func43, Try.ntmps43
  go_wp2_with fail
  have HW := Lib.hid (boxed2_new w la la so n cp so' n' cp')
  generalize ((w.alloc (Obj.cells #[Value.int IntKind.u64 ↑la, Value.slice so n cp] 25)).alloc (Obj.cells #[Value.int IntKind.u64 ↑la, Value.slice so' n' cp'] 25)) = W at *
  obtain ⟨a0, a1, b0, b1⟩ := HW.out.cells (Below.refl _ _)
  go_region_held3 (fun w' => w'.cell? ⟨w.heap.size, 0, none⟩ = some (.int .u64 la) ∧ w'.cell? ⟨w.heap.size, 1, none⟩ = some (.slice so n cp) ∧ w'.cell? ⟨w.heap.size + 1, 0, none⟩ = some (.int .u64 la) ∧ w'.cell? ⟨w.heap.size + 1, 1, none⟩ = some (.slice so' n' cp'))
    (first | exact ⟨a0, a1, b0, b1⟩ | exact HW.out.cells G3.out | exact HW.out.cells G2.out.2.2 | exact HW.out.cells G1.out.2)
    (first
      | (go_at_call_of 45 (Value.agg #[Value.int IntKind.u64 la, Value.slice so n cp]); refine (set64_any (HA.out.same HW.out.1.drew)).mono ?_; rintro e w1 ⟨p1, rfl, hB1, hb1⟩; have G1 : Hid (Bs w1 0 p1 la S ∧ Below W.heap.size W w1) := ⟨hB1.mono (Nat.zero_le _), (Below.refl W.heap.size W).drew.trans hb1⟩; clear hB1 hb1)
      | (go_at_call_of 45 (Value.agg #[Value.int IntKind.u64 la, Value.slice so' n' cp']); refine (set64_any (HB.out.same (HW.out.1.trans (G1.out.2.mono HW.out.1.size)))).mono ?_; rintro e w2 ⟨p2, rfl, hB2, hb2⟩; have G2 : Hid (Bs w2 0 p1 la S ∧ Bs w2 0 p2 la S ∧ Below W.heap.size W w2) := ⟨G1.out.1.same hb2, hB2.mono (Nat.zero_le _), G1.out.2.trans (hb2.mono G1.out.2.size)⟩; clear hB2 hb2)
      | (go_at_call 77; refine (super_same G2.out.1 G2.out.2.1).mono ?_; rintro e w3 ⟨rfl, d3, rfl⟩; have G3 : Hid (Below W.heap.size W (w2.drewN d3)) := Lib.hid (below_drewN G2.out.2.2 d3)))
  go_wp2_with fail
  go_ret
  exact ⟨rfl, HW.out.1.trans (G3.out.mono HW.out.1.size)⟩

set_option maxRecDepth 100000 in
set_option maxHeartbeats 1000000 in
theorem iStrict {w : World} {v v' : Value} {la : Nat} {S : Nat → Bool} (ha : IsBits w v la S) (hb : IsBits w v' la S) :
    Calls Try.prog 44 #[v, v'] w fun e w' => e = .returned (.bool false) ∧ Below w.heap.size w w' := by
  have HA := Lib.hid ha
  have HB := Lib.hid hb
  obtain ⟨so, n, cp, rfl⟩ := ha.shape
  obtain ⟨so', n', cp', rfl⟩ := hb.shape
  clear ha hb
  go_enter Try.func44, Try.ntmps44
  go_wp2_with fail
  have HW := Lib.hid (boxed2_new w la la so n cp so' n' cp')
  generalize ((w.alloc (Obj.cells #[Value.int IntKind.u64 ↑la, Value.slice so n cp] 25)).alloc (Obj.cells #[Value.int IntKind.u64 ↑la, Value.slice so' n' cp'] 25)) = W at *
  obtain ⟨a0, a1, b0, b1⟩ := HW.out.cells (Below.refl _ _)
  go_region_held3 (fun w' => w'.cell? ⟨w.heap.size, 0, none⟩ = some (.int .u64 la) ∧ w'.cell? ⟨w.heap.size, 1, none⟩ = some (.slice so n cp) ∧ w'.cell? ⟨w.heap.size + 1, 0, none⟩ = some (.int .u64 la) ∧ w'.cell? ⟨w.heap.size + 1, 1, none⟩ = some (.slice so' n' cp'))
    (first | exact ⟨a0, a1, b0, b1⟩ | exact HW.out.cells G3.out | exact HW.out.cells G2.out.2.2 | exact HW.out.cells G1.out.2)
    (first
      | (go_at_call_of 45 (Value.agg #[Value.int IntKind.u64 la, Value.slice so n cp]); refine (set64_any (HA.out.same HW.out.1.drew)).mono ?_; rintro e w1 ⟨p1, rfl, hB1, hb1⟩; have G1 : Hid (Bs w1 0 p1 la S ∧ Below W.heap.size W w1) := ⟨hB1.mono (Nat.zero_le _), (Below.refl W.heap.size W).drew.trans hb1⟩; clear hB1 hb1)
      | (go_at_call_of 45 (Value.agg #[Value.int IntKind.u64 la, Value.slice so' n' cp']); refine (set64_any (HB.out.same (HW.out.1.trans (G1.out.2.mono HW.out.1.size)))).mono ?_; rintro e w2 ⟨p2, rfl, hB2, hb2⟩; have G2 : Hid (Bs w2 0 p1 la S ∧ Bs w2 0 p2 la S ∧ Below W.heap.size W w2) := ⟨G1.out.1.same hb2, hB2.mono (Nat.zero_le _), G1.out.2.trans (hb2.mono G1.out.2.size)⟩; clear hB2 hb2)
      | (go_at_call 78; refine (strict_same G2.out.1 G2.out.2.1).mono ?_; rintro e w3 ⟨rfl, d3, rfl⟩; have G3 : Hid (Below W.heap.size W (w2.drewN d3)) := Lib.hid (below_drewN G2.out.2.2 d3)))
  go_wp2_with fail
  go_ret
  exact ⟨rfl, HW.out.1.trans (G3.out.mono HW.out.1.size)⟩

end Go.Proofs.Ytpmnpaannbhoeaa
