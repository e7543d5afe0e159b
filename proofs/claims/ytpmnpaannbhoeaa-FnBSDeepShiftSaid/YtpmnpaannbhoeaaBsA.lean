/- Two bitsets made into a third one. -/
import Derived.Test.YtpmnpaannbhoeaaBs9
namespace Go.Proofs.Ytpmnpaannbhoeaa
open Go.RowKit

set_option maxHeartbeats 400000 in
theorem sort_any (a b : Nat) (la lb : Nat) (w : World) (ha : w.cell? ⟨a, 0, none⟩ = some (.int .u64 la)) (hb : w.cell? ⟨b, 0, none⟩ = some (.int .u64 lb)) :
    Calls Try.prog 83 #[.pointer (some ⟨a, 0, none⟩), .pointer (some ⟨b, 0, none⟩)] w fun e w' =>
      e = .returned (.tuple #[.pointer (some ⟨if la ≤ lb then a else b, 0, none⟩), .pointer (some ⟨if la ≤ lb then b else a, 0, none⟩)]) ∧ ∃ d, w' = w.drewN d := by
  by_cases h : la ≤ lb
  · rw [if_pos h, if_pos h]
    go_enter Try.func83, Try.ntmps83
    go_wp2_with fail
    go_quiet (fail)
    go_wp2_with fail
    go_ret2
    exact ⟨rfl, nq, rfl⟩
  · rw [if_neg h, if_neg h]
    go_enter Try.func83, Try.ntmps83
    go_wp2_with fail
    go_quiet (fail)
    go_wp2_with fail
    go_ret2
    exact ⟨rfl, nq, rfl⟩

set_option maxHeartbeats 1000000 in
theorem clone_any {w : World} {p b n c len : Nat} {f : Nat → Nat} (h : BSet w p b n c len f) (hl : len ≤ 1000000) :
    Calls Try.prog 87 #[.pointer (some ⟨p, 0, none⟩)] w fun e w' => ∃ q b' g, e = .returned (.pointer (some ⟨q, 0, none⟩)) ∧ BSet w' q b' n n len g ∧ (∀ i, i < n → g i = f i) ∧ Below w.heap.size w w' ∧
      w.heap.size ≤ q ∧ w.heap.size ≤ b' := by
  have h0 := h.len_cell
  have h1 := h.set_cell
  have H := Lib.hid h
  have hnl := fun w => run_neq_slice_nil (P := Try.prog) w 36 69 (some ⟨b, 0, none⟩) n c Try.underlying36
  clear h
  go_enter Try.func87, Try.ntmps87
  go_wp2_with fail
  refine (new_any _ _ hl).mono ?_
  rintro e w1 ⟨q, b', rfl, hB, ho, hq, hb'⟩
  rw [← H.out.n_eq] at hB
  have HS := H.out.below ho.nil H.out.plt H.out.blt
  have g1 := HS.set_cell
  have c1 := hB.set_cell
  obtain ⟨W, hW⟩ : ∃ W, W = w1.drew.setCells b' 0 (((List.range n).map fun j => f (0 + j)).map fun n : Nat => Value.int .u64 (n : Int)) := ⟨_, rfl⟩
  have hcopy : ∀ ty, (Builtin.copy_ #[36, 36] ty #[.slice (some ⟨b', 0, none⟩) n n, .slice (some ⟨b, 0, none⟩) n c]).run Try.prog w1.drew = .ok (.int .i64 (n : Int)) W := fun ty => by
    rw [hW]
    exact run_copy_wd (P := Try.prog) (K := .u64) (f := fun _ => 0) (c := n) 36 ty 69 Try.underlying36 size69 hB.wd.drew HS.wd.drew 0 0 n n n c n (by show n = min n n; omega) (by omega) (by have := HS.nc; omega)
  have hO : Below w.heap.size w W := by
    rw [hW]; exact (Only.setCells (M := []) (Or.inr hb') _ _ ho.drew).nil
  have hNew : BSet W q b' n n len (put (fun _ => 0) 0 ((List.range n).map fun j => f (0 + j))) := by
    obtain ⟨T, hst⟩ := hB.st
    refine ⟨⟨T, ?_⟩, ?_, hB.ne, H.out.n_eq, Nat.le_refl _, put_small _ _ H.out.small, ?_⟩
    · rw [hW]; exact Blk.setCells (fun e => hB.ne e.symm) _ _ hst.drew
    · rw [hW]; exact Wd.setCells _ _ hB.wd.drew
    · intro j h1 h2
      have := put_bit n f j
      unfold bit at this
      rw [this, H.out.clean j h1 h2, Bool.and_false]
  have HR : Hid (Below w.heap.size w W ∧ BSet W q b' n n len (put (fun _ => 0) 0 ((List.range n).map fun j => f (0 + j)))) := ⟨hO, hNew⟩
  clear hB ho HS hW hO hNew
  go_wp2_with fail
  refine wp_region_still_tail 8 (by kernel_rfl) (by kernel_rfl) ?_
  simp only [List.take_succ_cons, List.take_zero, List.drop_succ_cons, List.drop_zero]
  repeat still_step
  refine wpStill_nil ?_
  change wpList _ _ _ _ _ w1.drew
  go_wp2_with fail
  go_ret
  refine ⟨q, b', _, rfl, HR.out.2, fun i hi => ?_, HR.out.1, hq, hb'⟩
  unfold put
  rw [if_pos (by simp; exact hi)]
  simp [hi]


/-! BINARY -/
def wAnd (x y : Nat) : Nat := x &&& y
def wOr (x y : Nat) : Nat := x ||| y
def wXor (x y : Nat) : Nat := x ^^^ y
theorem wAnd_lt {x y : Nat} (_hx : x < 18446744073709551616) (hy : y < 18446744073709551616) : wAnd x y < 18446744073709551616 := Nat.and_lt_two_pow (n := 64) x hy
theorem wOr_lt {x y : Nat} (hx : x < 18446744073709551616) (hy : y < 18446744073709551616) : wOr x y < 18446744073709551616 := Nat.or_lt_two_pow (n := 64) hx hy
theorem wXor_lt {x y : Nat} (hx : x < 18446744073709551616) (hy : y < 18446744073709551616) : wXor x y < 18446744073709551616 := Nat.xor_lt_two_pow (n := 64) hx hy
theorem wAnd_I (x y : Nat) (hx : x < 18446744073709551616) (hy : y < 18446744073709551616) : bits BinOp.and IntKind.u64 (x : Int) (y : Int) = (wAnd x y : Int) := u64_and_nat x y hx hy
theorem wOr_I (x y : Nat) (hx : x < 18446744073709551616) (hy : y < 18446744073709551616) : bits BinOp.or IntKind.u64 (x : Int) (y : Int) = (wOr x y : Int) := u64_or_nat x y hx hy
theorem wXor_I (x y : Nat) (hx : x < 18446744073709551616) (hy : y < 18446744073709551616) : bits BinOp.xor IntKind.u64 (x : Int) (y : Int) = (wXor x y : Int) := u64_xor_nat x y hx hy
theorem wAnd_tb (x y j : Nat) : (wAnd x y).testBit j = (x.testBit j && y.testBit j) := Nat.testBit_and x y j
theorem wOr_tb (x y j : Nat) : (wOr x y).testBit j = (x.testBit j || y.testBit j) := Nat.testBit_or x y j
theorem wXor_tb (x y j : Nat) : (wXor x y).testBit j = (x.testBit j != y.testBit j) := by rw [wXor, Nat.testBit_xor]

set_option maxRecDepth 100000 in
set_option maxHeartbeats 1000000 in
theorem inter_a {w : World} {px bx nx cx lx py bY ny cy ly : Nat} {fx fy : Nat → Nat} (hx : BSet w px bx nx cx lx fx) (hy : BSet w py bY ny cy ly fy) (hle : lx ≤ ly) (hl : ly ≤ 1000000) :
    Calls Try.prog 53 #[.pointer (some ⟨px, 0, none⟩), .pointer (some ⟨py, 0, none⟩)] w fun e w' => ∃ r b' g, e = .returned (.pointer (some ⟨r, 0, none⟩)) ∧ BSet w' r b' nx nx lx g ∧
      (∀ i, i < nx → g i = wAnd (fx i) (fy i)) ∧ Below w.heap.size w w' ∧ w.heap.size ≤ r ∧ w.heap.size ≤ b' := by
  have x0 := hx.len_cell
  have x1 := hx.set_cell
  have y0 := hy.len_cell
  have HX := Lib.hid hx
  have HY := Lib.hid hy
  have hnn : nx ≤ ny := by rw [hx.n_eq, hy.n_eq]; unfold wn; omega
  have hnb : ny ≤ 20000 := by rw [hy.n_eq]; unfold wn; omega
  have hs := sort_any px py lx ly w x0 y0
  rw [if_pos hle, if_pos hle] at hs
  have HS := Lib.hid hs
  clear hx hy hs
  go_enter Try.func53, Try.ntmps53
  go_wp2_with fail
  refine (panicIfNull_any _ _).mono ?_; rintro e w' ⟨rfl, rfl⟩
  go_wp2_with fail
  refine (panicIfNull_any _ _).mono ?_; rintro e w' ⟨rfl, rfl⟩
  go_wp2_with fail
  refine HS.out.mono ?_; rintro e w1 ⟨rfl, d, rfl⟩
  go_wp2_with fail
  refine (new_any _ _ (by omega)).mono ?_
  rintro e w2 ⟨r, b', rfl, hB, ho, hr, hb'⟩
  rw [← HX.out.n_eq] at hB
  have HO : Hid (Below w.heap.size w w2) := (below_drewN (Below.refl _ _) d).trans ho.nil
  have HB : Hid (BDirty w2 r b' nx nx lx (fun _ => 0)) := hB.dirty
  have HRB : Hid (w.heap.size ≤ r ∧ w.heap.size ≤ b') := ⟨hr, hb'⟩
  clear hB ho hr hb'
  have q1 : w2.cell? ⟨px, 1, none⟩ = some (.slice (some ⟨bx, 0, none⟩) nx cx) := (HO.out.cell HX.out.plt).trans x1
  go_wp2_with fail
  clear q1 x0 x1 y0
  go_loopw [5, 6, 27] (fun _ _ iv wr => ∃ k : Nat, k ≤ nx ∧ iv = .int .i64 k ∧ Hid (BDirty wr r b' nx nx lx (upto k (fun i => wAnd (fx i) (fy i)) (fun _ => 0)) ∧ Below w.heap.size w wr)) (fun _ _ iv _ => nx - (intOf iv).toNat)
  case atStart => exact ⟨0, by omega, rfl, by rw [upto_zero]; exact HB.out, HO.out⟩
  case round =>
    obtain ⟨k, hk, rfl, hR⟩ := hrel
    have HR : Hid (BDirty wr r b' nx nx lx (upto k (fun i => wAnd (fx i) (fy i)) (fun _ => 0)) ∧ Below w.heap.size w wr) := hR
    clear hR
    by_cases hkn : k < nx
    · have HX2 := HX.out.below HR.out.2 HX.out.plt HX.out.blt
      have HY2 := HY.out.below HR.out.2 HY.out.plt HY.out.blt
      have c1 := HX2.word hkn
      have c2 := HY2.set_cell
      have c3 := HY2.word (i := k) (by omega)
      have c4 := HR.out.1.set_cell
      have c5 := HR.out.1.word (i := k) (by omega)
      have c6 := HR.out.1.wd.free k
      clear HX2 HY2
      go_wp2_with fail
      have k0 : (0 : Int) ≤ (k : Int) := by omega
      have k1 : (k : Int) < (nx : Int) := by omega
      have k2 : (k : Int) < (ny : Int) := by omega
      refine wp_region_still_tail 15 (by kernel_rfl) (by kernel_rfl) ?_
      simp only [List.take_succ_cons, List.take_zero, List.drop_succ_cons, List.drop_zero]
      repeat still_step
      refine wpStill_nil ?_
      change wpList _ _ _ _ _ wr.drew
      have HE := Lib.hid (wAnd_I (fx k) (fy k) (HX.out.small _) (HY.out.small _))
      rw [HE.out]
      clear k0 k1 k2
      go_wp2_with fail
      go_roundw
      case rel =>
        refine ⟨k + 1, by omega, by go_num, ?_, ((Only.refl [b'] wr).drewN 1 |>.setCell (Or.inl (by simp)) _).below (B := w.heap.size) HR.out.2.size (by simp; exact HRB.out.2) |> HR.out.2.trans⟩
        have := (HR.out.1.drewN 1).store k _ (wAnd_lt (HX.out.small k) (HY.out.small k))
        rwa [upto_step k (fun i => wAnd (fx i) (fy i)) (fun _ => 0)] at this
      case measure => simp [intOf]; omega
    · have hkk : k = nx := by omega
      have HK := Lib.hid hkk
      clear hkk
      go_wp2_with fail
      go_ret
      have hd := HR.out.1
      rw [HK.out] at hd
      refine ⟨r, b', _, rfl, hd.whole (fun i h1 h2 => ?_), fun i hi => ?_, HR.out.2, HRB.out.1, HRB.out.2⟩
      · unfold upto
        rw [if_pos (show i / 64 < nx by omega), wAnd_tb, HX.out.clean i h1 h2]; rfl
      · unfold upto
        rw [if_pos hi]

set_option maxRecDepth 100000 in
set_option maxHeartbeats 1000000 in
theorem inter_b {w : World} {px bx nx cx lx py bY ny cy ly : Nat} {fx fy : Nat → Nat} (hx : BSet w px bx nx cx lx fx) (hy : BSet w py bY ny cy ly fy) (hle : lx < ly) (hl : ly ≤ 1000000) :
    Calls Try.prog 53 #[.pointer (some ⟨py, 0, none⟩), .pointer (some ⟨px, 0, none⟩)] w fun e w' => ∃ r b' g, e = .returned (.pointer (some ⟨r, 0, none⟩)) ∧ BSet w' r b' nx nx lx g ∧
      (∀ i, i < nx → g i = wAnd (fx i) (fy i)) ∧ Below w.heap.size w w' ∧ w.heap.size ≤ r ∧ w.heap.size ≤ b' := by
  have x0 := hx.len_cell
  have x1 := hx.set_cell
  have y0 := hy.len_cell
  have HX := Lib.hid hx
  have HY := Lib.hid hy
  have hnn : nx ≤ ny := by rw [hx.n_eq, hy.n_eq]; unfold wn; omega
  have hnb : ny ≤ 20000 := by rw [hy.n_eq]; unfold wn; omega
  have hs := sort_any py px ly lx w y0 x0
  rw [if_neg (by omega), if_neg (by omega)] at hs
  have HS := Lib.hid hs
  clear hx hy hs
  go_enter Try.func53, Try.ntmps53
  go_wp2_with fail
  refine (panicIfNull_any _ _).mono ?_; rintro e w' ⟨rfl, rfl⟩
  go_wp2_with fail
  refine (panicIfNull_any _ _).mono ?_; rintro e w' ⟨rfl, rfl⟩
  go_wp2_with fail
  refine HS.out.mono ?_; rintro e w1 ⟨rfl, d, rfl⟩
  go_wp2_with fail
  refine (new_any _ _ (by omega)).mono ?_
  rintro e w2 ⟨r, b', rfl, hB, ho, hr, hb'⟩
  rw [← HX.out.n_eq] at hB
  have HO : Hid (Below w.heap.size w w2) := (below_drewN (Below.refl _ _) d).trans ho.nil
  have HB : Hid (BDirty w2 r b' nx nx lx (fun _ => 0)) := hB.dirty
  have HRB : Hid (w.heap.size ≤ r ∧ w.heap.size ≤ b') := ⟨hr, hb'⟩
  clear hB ho hr hb'
  have q1 : w2.cell? ⟨px, 1, none⟩ = some (.slice (some ⟨bx, 0, none⟩) nx cx) := (HO.out.cell HX.out.plt).trans x1
  go_wp2_with fail
  clear q1 x0 x1 y0
  go_loopw [5, 6, 27] (fun _ _ iv wr => ∃ k : Nat, k ≤ nx ∧ iv = .int .i64 k ∧ Hid (BDirty wr r b' nx nx lx (upto k (fun i => wAnd (fx i) (fy i)) (fun _ => 0)) ∧ Below w.heap.size w wr)) (fun _ _ iv _ => nx - (intOf iv).toNat)
  case atStart => exact ⟨0, by omega, rfl, by rw [upto_zero]; exact HB.out, HO.out⟩
  case round =>
    obtain ⟨k, hk, rfl, hR⟩ := hrel
    have HR : Hid (BDirty wr r b' nx nx lx (upto k (fun i => wAnd (fx i) (fy i)) (fun _ => 0)) ∧ Below w.heap.size w wr) := hR
    clear hR
    by_cases hkn : k < nx
    · have HX2 := HX.out.below HR.out.2 HX.out.plt HX.out.blt
      have HY2 := HY.out.below HR.out.2 HY.out.plt HY.out.blt
      have c1 := HX2.word hkn
      have c2 := HY2.set_cell
      have c3 := HY2.word (i := k) (by omega)
      have c4 := HR.out.1.set_cell
      have c5 := HR.out.1.word (i := k) (by omega)
      have c6 := HR.out.1.wd.free k
      clear HX2 HY2
      go_wp2_with fail
      have k0 : (0 : Int) ≤ (k : Int) := by omega
      have k1 : (k : Int) < (nx : Int) := by omega
      have k2 : (k : Int) < (ny : Int) := by omega
      refine wp_region_still_tail 15 (by kernel_rfl) (by kernel_rfl) ?_
      simp only [List.take_succ_cons, List.take_zero, List.drop_succ_cons, List.drop_zero]
      repeat still_step
      refine wpStill_nil ?_
      change wpList _ _ _ _ _ wr.drew
      have HE := Lib.hid (wAnd_I (fx k) (fy k) (HX.out.small _) (HY.out.small _))
      rw [HE.out]
      clear k0 k1 k2
      go_wp2_with fail
      go_roundw
      case rel =>
        refine ⟨k + 1, by omega, by go_num, ?_, ((Only.refl [b'] wr).drewN 1 |>.setCell (Or.inl (by simp)) _).below (B := w.heap.size) HR.out.2.size (by simp; exact HRB.out.2) |> HR.out.2.trans⟩
        have := (HR.out.1.drewN 1).store k _ (wAnd_lt (HX.out.small k) (HY.out.small k))
        rwa [upto_step k (fun i => wAnd (fx i) (fy i)) (fun _ => 0)] at this
      case measure => simp [intOf]; omega
    · have hkk : k = nx := by omega
      have HK := Lib.hid hkk
      clear hkk
      go_wp2_with fail
      go_ret
      have hd := HR.out.1
      rw [HK.out] at hd
      refine ⟨r, b', _, rfl, hd.whole (fun i h1 h2 => ?_), fun i hi => ?_, HR.out.2, HRB.out.1, HRB.out.2⟩
      · unfold upto
        rw [if_pos (show i / 64 < nx by omega), wAnd_tb, HX.out.clean i h1 h2]; rfl
      · unfold upto
        rw [if_pos hi]

set_option maxRecDepth 100000 in
set_option maxHeartbeats 1000000 in
theorem union_a {w : World} {px bx nx cx lx py bY ny cy ly : Nat} {fx fy : Nat → Nat} (hx : BSet w px bx nx cx lx fx) (hy : BSet w py bY ny cy ly fy) (hle : lx ≤ ly) (hl : ly ≤ 1000000) :
    Calls Try.prog 59 #[.pointer (some ⟨px, 0, none⟩), .pointer (some ⟨py, 0, none⟩)] w fun e w' => ∃ r b' g, e = .returned (.pointer (some ⟨r, 0, none⟩)) ∧ BSet w' r b' ny ny ly g ∧
      (∀ i, i < ny → g i = if i < nx then wOr (fx i) (fy i) else fy i) ∧ Below w.heap.size w w' ∧ w.heap.size ≤ r ∧ w.heap.size ≤ b' := by
  have x0 := hx.len_cell
  have x1 := hx.set_cell
  have y0 := hy.len_cell
  have HX := Lib.hid hx
  have HY := Lib.hid hy
  have hnn : nx ≤ ny := by rw [hx.n_eq, hy.n_eq]; unfold wn; omega
  have hnb : ny ≤ 20000 := by rw [hy.n_eq]; unfold wn; omega
  have hs := sort_any px py lx ly w x0 y0
  rw [if_pos hle, if_pos hle] at hs
  have HS := Lib.hid hs
  clear hx hy hs
  go_enter Try.func59, Try.ntmps59
  go_wp2_with fail
  refine (panicIfNull_any _ _).mono ?_; rintro e w' ⟨rfl, rfl⟩
  go_wp2_with fail
  refine (panicIfNull_any _ _).mono ?_; rintro e w' ⟨rfl, rfl⟩
  go_wp2_with fail
  refine HS.out.mono ?_; rintro e w1 ⟨rfl, d, rfl⟩
  go_wp2_with fail
  refine (clone_any (HY.out.drewN d) hl).mono ?_
  rintro e w2 ⟨r, b', g0, rfl, hB, hg0, ho, hr, hb'⟩
  have HO : Hid (Below w.heap.size w w2) := (below_drewN (Below.refl _ _) d).trans ho
  have HB : Hid (BDirty w2 r b' ny ny ly g0) := hB.dirty
  have HG := Lib.hid hg0
  clear hg0
  have HRB : Hid (w.heap.size ≤ r ∧ w.heap.size ≤ b') := ⟨hr, hb'⟩
  clear hB ho hr hb'
  have q1 : w2.cell? ⟨px, 1, none⟩ = some (.slice (some ⟨bx, 0, none⟩) nx cx) := (HO.out.cell HX.out.plt).trans x1
  go_wp2_with fail
  clear q1 x0 x1 y0
  go_loopw [5, 6, 24] (fun _ _ iv wr => ∃ k : Nat, k ≤ nx ∧ iv = .int .i64 k ∧ Hid (BDirty wr r b' ny ny ly (upto k (fun i => wOr (fx i) (fy i)) g0) ∧ Below w.heap.size w wr)) (fun _ _ iv _ => nx - (intOf iv).toNat)
  case atStart => exact ⟨0, by omega, rfl, by rw [upto_zero]; exact HB.out, HO.out⟩
  case round =>
    obtain ⟨k, hk, rfl, hR⟩ := hrel
    have HR : Hid (BDirty wr r b' ny ny ly (upto k (fun i => wOr (fx i) (fy i)) g0) ∧ Below w.heap.size w wr) := hR
    clear hR
    by_cases hkn : k < nx
    · have HX2 := HX.out.below HR.out.2 HX.out.plt HX.out.blt
      have HY2 := HY.out.below HR.out.2 HY.out.plt HY.out.blt
      have c1 := HX2.word hkn
      have c2 := HY2.set_cell
      have c3 := HY2.word (i := k) (by omega)
      have c4 := HR.out.1.set_cell
      have c5 := HR.out.1.word (i := k) (by omega)
      have c6 := HR.out.1.wd.free k
      clear HX2 HY2
      go_wp2_with fail
      have k0 : (0 : Int) ≤ (k : Int) := by omega
      have k1 : (k : Int) < (nx : Int) := by omega
      have k2 : (k : Int) < (ny : Int) := by omega
      refine wp_region_still_tail 15 (by kernel_rfl) (by kernel_rfl) ?_
      simp only [List.take_succ_cons, List.take_zero, List.drop_succ_cons, List.drop_zero]
      repeat still_step
      refine wpStill_nil ?_
      change wpList _ _ _ _ _ wr.drew
      have HE := Lib.hid (wOr_I (fx k) (fy k) (HX.out.small _) (HY.out.small _))
      rw [HE.out]
      clear k0 k1 k2
      go_wp2_with fail
      go_roundw
      case rel =>
        refine ⟨k + 1, by omega, by go_num, ?_, ((Only.refl [b'] wr).drewN 1 |>.setCell (Or.inl (by simp)) _).below (B := w.heap.size) HR.out.2.size (by simp; exact HRB.out.2) |> HR.out.2.trans⟩
        have := (HR.out.1.drewN 1).store k _ (wOr_lt (HX.out.small k) (HY.out.small k))
        rwa [upto_step k (fun i => wOr (fx i) (fy i)) g0] at this
      case measure => simp [intOf]; omega
    · have hkk : k = nx := by omega
      have HK := Lib.hid hkk
      clear hkk
      go_wp2_with fail
      go_ret
      have hd := HR.out.1
      rw [HK.out] at hd
      refine ⟨r, b', _, rfl, hd.whole (fun i h1 h2 => ?_), fun i hi => ?_, HR.out.2, HRB.out.1, HRB.out.2⟩
      · unfold upto
        split
        · rw [wOr_tb, HX.out.clean i (by omega) (by omega), HY.out.clean i h1 h2]; rfl
        · rw [HG.out _ (by omega)]; exact HY.out.clean i h1 h2
      · unfold upto
        split
        · rfl
        · exact HG.out i hi

set_option maxRecDepth 100000 in
set_option maxHeartbeats 1000000 in
theorem union_b {w : World} {px bx nx cx lx py bY ny cy ly : Nat} {fx fy : Nat → Nat} (hx : BSet w px bx nx cx lx fx) (hy : BSet w py bY ny cy ly fy) (hle : lx < ly) (hl : ly ≤ 1000000) :
    Calls Try.prog 59 #[.pointer (some ⟨py, 0, none⟩), .pointer (some ⟨px, 0, none⟩)] w fun e w' => ∃ r b' g, e = .returned (.pointer (some ⟨r, 0, none⟩)) ∧ BSet w' r b' ny ny ly g ∧
      (∀ i, i < ny → g i = if i < nx then wOr (fx i) (fy i) else fy i) ∧ Below w.heap.size w w' ∧ w.heap.size ≤ r ∧ w.heap.size ≤ b' := by
  have x0 := hx.len_cell
  have x1 := hx.set_cell
  have y0 := hy.len_cell
  have HX := Lib.hid hx
  have HY := Lib.hid hy
  have hnn : nx ≤ ny := by rw [hx.n_eq, hy.n_eq]; unfold wn; omega
  have hnb : ny ≤ 20000 := by rw [hy.n_eq]; unfold wn; omega
  have hs := sort_any py px ly lx w y0 x0
  rw [if_neg (by omega), if_neg (by omega)] at hs
  have HS := Lib.hid hs
  clear hx hy hs
  go_enter Try.func59, Try.ntmps59
  go_wp2_with fail
  refine (panicIfNull_any _ _).mono ?_; rintro e w' ⟨rfl, rfl⟩
  go_wp2_with fail
  refine (panicIfNull_any _ _).mono ?_; rintro e w' ⟨rfl, rfl⟩
  go_wp2_with fail
  refine HS.out.mono ?_; rintro e w1 ⟨rfl, d, rfl⟩
  go_wp2_with fail
  refine (clone_any (HY.out.drewN d) hl).mono ?_
  rintro e w2 ⟨r, b', g0, rfl, hB, hg0, ho, hr, hb'⟩
  have HO : Hid (Below w.heap.size w w2) := (below_drewN (Below.refl _ _) d).trans ho
  have HB : Hid (BDirty w2 r b' ny ny ly g0) := hB.dirty
  have HG := Lib.hid hg0
  clear hg0
  have HRB : Hid (w.heap.size ≤ r ∧ w.heap.size ≤ b') := ⟨hr, hb'⟩
  clear hB ho hr hb'
  have q1 : w2.cell? ⟨px, 1, none⟩ = some (.slice (some ⟨bx, 0, none⟩) nx cx) := (HO.out.cell HX.out.plt).trans x1
  go_wp2_with fail
  clear q1 x0 x1 y0
  go_loopw [5, 6, 24] (fun _ _ iv wr => ∃ k : Nat, k ≤ nx ∧ iv = .int .i64 k ∧ Hid (BDirty wr r b' ny ny ly (upto k (fun i => wOr (fx i) (fy i)) g0) ∧ Below w.heap.size w wr)) (fun _ _ iv _ => nx - (intOf iv).toNat)
  case atStart => exact ⟨0, by omega, rfl, by rw [upto_zero]; exact HB.out, HO.out⟩
  case round =>
    obtain ⟨k, hk, rfl, hR⟩ := hrel
    have HR : Hid (BDirty wr r b' ny ny ly (upto k (fun i => wOr (fx i) (fy i)) g0) ∧ Below w.heap.size w wr) := hR
    clear hR
    by_cases hkn : k < nx
    · have HX2 := HX.out.below HR.out.2 HX.out.plt HX.out.blt
      have HY2 := HY.out.below HR.out.2 HY.out.plt HY.out.blt
      have c1 := HX2.word hkn
      have c2 := HY2.set_cell
      have c3 := HY2.word (i := k) (by omega)
      have c4 := HR.out.1.set_cell
      have c5 := HR.out.1.word (i := k) (by omega)
      have c6 := HR.out.1.wd.free k
      clear HX2 HY2
      go_wp2_with fail
      have k0 : (0 : Int) ≤ (k : Int) := by omega
      have k1 : (k : Int) < (nx : Int) := by omega
      have k2 : (k : Int) < (ny : Int) := by omega
      refine wp_region_still_tail 15 (by kernel_rfl) (by kernel_rfl) ?_
      simp only [List.take_succ_cons, List.take_zero, List.drop_succ_cons, List.drop_zero]
      repeat still_step
      refine wpStill_nil ?_
      change wpList _ _ _ _ _ wr.drew
      have HE := Lib.hid (wOr_I (fx k) (fy k) (HX.out.small _) (HY.out.small _))
      rw [HE.out]
      clear k0 k1 k2
      go_wp2_with fail
      go_roundw
      case rel =>
        refine ⟨k + 1, by omega, by go_num, ?_, ((Only.refl [b'] wr).drewN 1 |>.setCell (Or.inl (by simp)) _).below (B := w.heap.size) HR.out.2.size (by simp; exact HRB.out.2) |> HR.out.2.trans⟩
        have := (HR.out.1.drewN 1).store k _ (wOr_lt (HX.out.small k) (HY.out.small k))
        rwa [upto_step k (fun i => wOr (fx i) (fy i)) g0] at this
      case measure => simp [intOf]; omega
    · have hkk : k = nx := by omega
      have HK := Lib.hid hkk
      clear hkk
      go_wp2_with fail
      go_ret
      have hd := HR.out.1
      rw [HK.out] at hd
      refine ⟨r, b', _, rfl, hd.whole (fun i h1 h2 => ?_), fun i hi => ?_, HR.out.2, HRB.out.1, HRB.out.2⟩
      · unfold upto
        split
        · rw [wOr_tb, HX.out.clean i (by omega) (by omega), HY.out.clean i h1 h2]; rfl
        · rw [HG.out _ (by omega)]; exact HY.out.clean i h1 h2
      · unfold upto
        split
        · rfl
        · exact HG.out i hi

set_option maxRecDepth 100000 in
set_option maxHeartbeats 1000000 in
theorem symd_a {w : World} {px bx nx cx lx py bY ny cy ly : Nat} {fx fy : Nat → Nat} (hx : BSet w px bx nx cx lx fx) (hy : BSet w py bY ny cy ly fy) (hle : lx ≤ ly) (hl : ly ≤ 1000000) :
    Calls Try.prog 68 #[.pointer (some ⟨px, 0, none⟩), .pointer (some ⟨py, 0, none⟩)] w fun e w' => ∃ r b' g, e = .returned (.pointer (some ⟨r, 0, none⟩)) ∧ BSet w' r b' ny ny ly g ∧
      (∀ i, i < ny → g i = if i < nx then wXor (fx i) (fy i) else fy i) ∧ Below w.heap.size w w' ∧ w.heap.size ≤ r ∧ w.heap.size ≤ b' := by
  have x0 := hx.len_cell
  have x1 := hx.set_cell
  have y0 := hy.len_cell
  have HX := Lib.hid hx
  have HY := Lib.hid hy
  have hnn : nx ≤ ny := by rw [hx.n_eq, hy.n_eq]; unfold wn; omega
  have hnb : ny ≤ 20000 := by rw [hy.n_eq]; unfold wn; omega
  have hs := sort_any px py lx ly w x0 y0
  rw [if_pos hle, if_pos hle] at hs
  have HS := Lib.hid hs
  clear hx hy hs
  go_enter Try.func68, Try.ntmps68
  go_wp2_with fail
  refine (panicIfNull_any _ _).mono ?_; rintro e w' ⟨rfl, rfl⟩
  go_wp2_with fail
  refine (panicIfNull_any _ _).mono ?_; rintro e w' ⟨rfl, rfl⟩
  go_wp2_with fail
  refine HS.out.mono ?_; rintro e w1 ⟨rfl, d, rfl⟩
  go_wp2_with fail
  refine (clone_any (HY.out.drewN d) hl).mono ?_
  rintro e w2 ⟨r, b', g0, rfl, hB, hg0, ho, hr, hb'⟩
  have HO : Hid (Below w.heap.size w w2) := (below_drewN (Below.refl _ _) d).trans ho
  have HB : Hid (BDirty w2 r b' ny ny ly g0) := hB.dirty
  have HG := Lib.hid hg0
  clear hg0
  have HRB : Hid (w.heap.size ≤ r ∧ w.heap.size ≤ b') := ⟨hr, hb'⟩
  clear hB ho hr hb'
  have q1 : w2.cell? ⟨px, 1, none⟩ = some (.slice (some ⟨bx, 0, none⟩) nx cx) := (HO.out.cell HX.out.plt).trans x1
  go_wp2_with fail
  clear q1 x0 x1 y0
  go_loopw [5, 6, 24] (fun _ _ iv wr => ∃ k : Nat, k ≤ nx ∧ iv = .int .i64 k ∧ Hid (BDirty wr r b' ny ny ly (upto k (fun i => wXor (fx i) (fy i)) g0) ∧ Below w.heap.size w wr)) (fun _ _ iv _ => nx - (intOf iv).toNat)
  case atStart => exact ⟨0, by omega, rfl, by rw [upto_zero]; exact HB.out, HO.out⟩
  case round =>
    obtain ⟨k, hk, rfl, hR⟩ := hrel
    have HR : Hid (BDirty wr r b' ny ny ly (upto k (fun i => wXor (fx i) (fy i)) g0) ∧ Below w.heap.size w wr) := hR
    clear hR
    by_cases hkn : k < nx
    · have HX2 := HX.out.below HR.out.2 HX.out.plt HX.out.blt
      have HY2 := HY.out.below HR.out.2 HY.out.plt HY.out.blt
      have c1 := HX2.word hkn
      have c2 := HY2.set_cell
      have c3 := HY2.word (i := k) (by omega)
      have c4 := HR.out.1.set_cell
      have c5 := HR.out.1.word (i := k) (by omega)
      have c6 := HR.out.1.wd.free k
      clear HX2 HY2
      go_wp2_with fail
      have k0 : (0 : Int) ≤ (k : Int) := by omega
      have k1 : (k : Int) < (nx : Int) := by omega
      have k2 : (k : Int) < (ny : Int) := by omega
      refine wp_region_still_tail 15 (by kernel_rfl) (by kernel_rfl) ?_
      simp only [List.take_succ_cons, List.take_zero, List.drop_succ_cons, List.drop_zero]
      repeat still_step
      refine wpStill_nil ?_
      change wpList _ _ _ _ _ wr.drew
      have HE := Lib.hid (wXor_I (fx k) (fy k) (HX.out.small _) (HY.out.small _))
      rw [HE.out]
      clear k0 k1 k2
      go_wp2_with fail
      go_roundw
      case rel =>
        refine ⟨k + 1, by omega, by go_num, ?_, ((Only.refl [b'] wr).drewN 1 |>.setCell (Or.inl (by simp)) _).below (B := w.heap.size) HR.out.2.size (by simp; exact HRB.out.2) |> HR.out.2.trans⟩
        have := (HR.out.1.drewN 1).store k _ (wXor_lt (HX.out.small k) (HY.out.small k))
        rwa [upto_step k (fun i => wXor (fx i) (fy i)) g0] at this
      case measure => simp [intOf]; omega
    · have hkk : k = nx := by omega
      have HK := Lib.hid hkk
      clear hkk
      go_wp2_with fail
      go_ret
      have hd := HR.out.1
      rw [HK.out] at hd
      refine ⟨r, b', _, rfl, hd.whole (fun i h1 h2 => ?_), fun i hi => ?_, HR.out.2, HRB.out.1, HRB.out.2⟩
      · unfold upto
        split
        · rw [wXor_tb, HX.out.clean i (by omega) (by omega), HY.out.clean i h1 h2]; rfl
        · rw [HG.out _ (by omega)]; exact HY.out.clean i h1 h2
      · unfold upto
        split
        · rfl
        · exact HG.out i hi

set_option maxRecDepth 100000 in
set_option maxHeartbeats 1000000 in
theorem symd_b {w : World} {px bx nx cx lx py bY ny cy ly : Nat} {fx fy : Nat → Nat} (hx : BSet w px bx nx cx lx fx) (hy : BSet w py bY ny cy ly fy) (hle : lx < ly) (hl : ly ≤ 1000000) :
    Calls Try.prog 68 #[.pointer (some ⟨py, 0, none⟩), .pointer (some ⟨px, 0, none⟩)] w fun e w' => ∃ r b' g, e = .returned (.pointer (some ⟨r, 0, none⟩)) ∧ BSet w' r b' ny ny ly g ∧
      (∀ i, i < ny → g i = if i < nx then wXor (fx i) (fy i) else fy i) ∧ Below w.heap.size w w' ∧ w.heap.size ≤ r ∧ w.heap.size ≤ b' := by
  have x0 := hx.len_cell
  have x1 := hx.set_cell
  have y0 := hy.len_cell
  have HX := Lib.hid hx
  have HY := Lib.hid hy
  have hnn : nx ≤ ny := by rw [hx.n_eq, hy.n_eq]; unfold wn; omega
  have hnb : ny ≤ 20000 := by rw [hy.n_eq]; unfold wn; omega
  have hs := sort_any py px ly lx w y0 x0
  rw [if_neg (by omega), if_neg (by omega)] at hs
  have HS := Lib.hid hs
  clear hx hy hs
  go_enter Try.func68, Try.ntmps68
  go_wp2_with fail
  refine (panicIfNull_any _ _).mono ?_; rintro e w' ⟨rfl, rfl⟩
  go_wp2_with fail
  refine (panicIfNull_any _ _).mono ?_; rintro e w' ⟨rfl, rfl⟩
  go_wp2_with fail
  refine HS.out.mono ?_; rintro e w1 ⟨rfl, d, rfl⟩
  go_wp2_with fail
  refine (clone_any (HY.out.drewN d) hl).mono ?_
  rintro e w2 ⟨r, b', g0, rfl, hB, hg0, ho, hr, hb'⟩
  have HO : Hid (Below w.heap.size w w2) := (below_drewN (Below.refl _ _) d).trans ho
  have HB : Hid (BDirty w2 r b' ny ny ly g0) := hB.dirty
  have HG := Lib.hid hg0
  clear hg0
  have HRB : Hid (w.heap.size ≤ r ∧ w.heap.size ≤ b') := ⟨hr, hb'⟩
  clear hB ho hr hb'
  have q1 : w2.cell? ⟨px, 1, none⟩ = some (.slice (some ⟨bx, 0, none⟩) nx cx) := (HO.out.cell HX.out.plt).trans x1
  go_wp2_with fail
  clear q1 x0 x1 y0
  go_loopw [5, 6, 24] (fun _ _ iv wr => ∃ k : Nat, k ≤ nx ∧ iv = .int .i64 k ∧ Hid (BDirty wr r b' ny ny ly (upto k (fun i => wXor (fx i) (fy i)) g0) ∧ Below w.heap.size w wr)) (fun _ _ iv _ => nx - (intOf iv).toNat)
  case atStart => exact ⟨0, by omega, rfl, by rw [upto_zero]; exact HB.out, HO.out⟩
  case round =>
    obtain ⟨k, hk, rfl, hR⟩ := hrel
    have HR : Hid (BDirty wr r b' ny ny ly (upto k (fun i => wXor (fx i) (fy i)) g0) ∧ Below w.heap.size w wr) := hR
    clear hR
    by_cases hkn : k < nx
    · have HX2 := HX.out.below HR.out.2 HX.out.plt HX.out.blt
      have HY2 := HY.out.below HR.out.2 HY.out.plt HY.out.blt
      have c1 := HX2.word hkn
      have c2 := HY2.set_cell
      have c3 := HY2.word (i := k) (by omega)
      have c4 := HR.out.1.set_cell
      have c5 := HR.out.1.word (i := k) (by omega)
      have c6 := HR.out.1.wd.free k
      clear HX2 HY2
      go_wp2_with fail
      have k0 : (0 : Int) ≤ (k : Int) := by omega
      have k1 : (k : Int) < (nx : Int) := by omega
      have k2 : (k : Int) < (ny : Int) := by omega
      refine wp_region_still_tail 15 (by kernel_rfl) (by kernel_rfl) ?_
      simp only [List.take_succ_cons, List.take_zero, List.drop_succ_cons, List.drop_zero]
      repeat still_step
      refine wpStill_nil ?_
      change wpList _ _ _ _ _ wr.drew
      have HE := Lib.hid (wXor_I (fx k) (fy k) (HX.out.small _) (HY.out.small _))
      rw [HE.out]
      clear k0 k1 k2
      go_wp2_with fail
      go_roundw
      case rel =>
        refine ⟨k + 1, by omega, by go_num, ?_, ((Only.refl [b'] wr).drewN 1 |>.setCell (Or.inl (by simp)) _).below (B := w.heap.size) HR.out.2.size (by simp; exact HRB.out.2) |> HR.out.2.trans⟩
        have := (HR.out.1.drewN 1).store k _ (wXor_lt (HX.out.small k) (HY.out.small k))
        rwa [upto_step k (fun i => wXor (fx i) (fy i)) g0] at this
      case measure => simp [intOf]; omega
    · have hkk : k = nx := by omega
      have HK := Lib.hid hkk
      clear hkk
      go_wp2_with fail
      go_ret
      have hd := HR.out.1
      rw [HK.out] at hd
      refine ⟨r, b', _, rfl, hd.whole (fun i h1 h2 => ?_), fun i hi => ?_, HR.out.2, HRB.out.1, HRB.out.2⟩
      · unfold upto
        split
        · rw [wXor_tb, HX.out.clean i (by omega) (by omega), HY.out.clean i h1 h2]; rfl
        · rw [HG.out _ (by omega)]; exact HY.out.clean i h1 h2
      · unfold upto
        split
        · rfl
        · exact HG.out i hi


theorem inter_any {w : World} {B B' p q la lb : Nat} {S S' : Nat → Bool} (hp : Bs w B p la S) (hq : Bs w B' q lb S') :
    Calls Try.prog 53 #[.pointer (some ⟨p, 0, none⟩), .pointer (some ⟨q, 0, none⟩)] w fun e w' => ∃ r, e = .returned (.pointer (some ⟨r, 0, none⟩)) ∧
      Bs w' w.heap.size r (min la lb) (fun j => S j && S' j) ∧ Below w.heap.size w w' := by
  obtain ⟨b1, n1, c1, f1, h1, _, _, _, l1, s1⟩ := hp
  obtain ⟨b2, n2, c2, f2, h2, _, _, _, l2, s2⟩ := hq
  by_cases hle : la ≤ lb
  · refine (inter_a h1 h2 hle (by omega)).mono ?_
    rintro e w' ⟨r, b', g, rfl, hB, hg, hO, hr, hb'⟩
    refine ⟨r, rfl, ⟨b', _, _, g, by rw [Nat.min_eq_left hle]; exact hB, hr, hb', ?_, by omega, fun j => ?_⟩, hO⟩
    · have := hB.n_eq; unfold wn at this; omega
    · have e1 := h1.n_eq
      have e2 := h2.n_eq
      unfold wn at e1 e2
      show (S j && S' j) = _
      rw [s1, s2, Nat.min_eq_left hle]
      by_cases hj : j < la
      · unfold bit
        rw [hg _ (by omega), decide_eq_true hj]
        rw [wAnd_tb, decide_eq_true (show j < lb by omega)]
        simp
      · rw [decide_eq_false hj]; simp
  · refine (inter_b h2 h1 (by omega) (by omega)).mono ?_
    rintro e w' ⟨r, b', g, rfl, hB, hg, hO, hr, hb'⟩
    refine ⟨r, rfl, ⟨b', _, _, g, by rw [Nat.min_eq_right (show lb ≤ la by omega)]; exact hB, hr, hb', ?_, by omega, fun j => ?_⟩, hO⟩
    · have := hB.n_eq; unfold wn at this; omega
    · have e1 := h1.n_eq
      have e2 := h2.n_eq
      unfold wn at e1 e2
      show (S j && S' j) = _
      rw [s1, s2, Nat.min_eq_right (show lb ≤ la by omega)]
      by_cases hj : j < lb
      · unfold bit
        rw [hg _ (by omega), decide_eq_true hj]
        rw [wAnd_tb, decide_eq_true (show j < la by omega)]
        simp [Bool.and_comm]
      · rw [decide_eq_false hj]; simp

theorem union_any {w : World} {B B' p q la lb : Nat} {S S' : Nat → Bool} (hp : Bs w B p la S) (hq : Bs w B' q lb S') :
    Calls Try.prog 59 #[.pointer (some ⟨p, 0, none⟩), .pointer (some ⟨q, 0, none⟩)] w fun e w' => ∃ r, e = .returned (.pointer (some ⟨r, 0, none⟩)) ∧
      Bs w' w.heap.size r (max la lb) (fun j => S j || S' j) ∧ Below w.heap.size w w' := by
  obtain ⟨b1, n1, c1, f1, h1, _, _, _, l1, s1⟩ := hp
  obtain ⟨b2, n2, c2, f2, h2, _, _, _, l2, s2⟩ := hq
  by_cases hle : la ≤ lb
  · refine (union_a h1 h2 hle (by omega)).mono ?_
    rintro e w' ⟨r, b', g, rfl, hB, hg, hO, hr, hb'⟩
    refine ⟨r, rfl, ⟨b', _, _, g, by rw [Nat.max_eq_right hle]; exact hB, hr, hb', ?_, by omega, fun j => ?_⟩, hO⟩
    · have := hB.n_eq; unfold wn at this; omega
    · have e1 := h1.n_eq
      have e2 := h2.n_eq
      unfold wn at e1 e2
      show (S j || S' j) = _
      rw [s1, s2, Nat.max_eq_right hle]
      by_cases hj : j < lb
      · unfold bit
        rw [hg _ (by omega), decide_eq_true hj]
        by_cases h3 : j / 64 < n1
        · rw [if_pos h3, wOr_tb]
          by_cases h4 : j < la
          · simp [h4]
          · rw [decide_eq_false h4, h1.clean j (by omega) (by omega)]; simp
        · rw [if_neg h3, decide_eq_false (show ¬ j < la by omega)]; simp
      · rw [decide_eq_false hj, decide_eq_false (show ¬ j < la by omega)]; rfl
  · refine (union_b h2 h1 (by omega) (by omega)).mono ?_
    rintro e w' ⟨r, b', g, rfl, hB, hg, hO, hr, hb'⟩
    refine ⟨r, rfl, ⟨b', _, _, g, by rw [Nat.max_eq_left (show lb ≤ la by omega)]; exact hB, hr, hb', ?_, by omega, fun j => ?_⟩, hO⟩
    · have := hB.n_eq; unfold wn at this; omega
    · have e1 := h1.n_eq
      have e2 := h2.n_eq
      unfold wn at e1 e2
      show (S j || S' j) = _
      rw [s1, s2, Nat.max_eq_left (show lb ≤ la by omega)]
      by_cases hj : j < la
      · unfold bit
        rw [hg _ (by omega), decide_eq_true hj]
        by_cases h3 : j / 64 < n2
        · rw [if_pos h3, wOr_tb]
          by_cases h4 : j < lb
          · simp [h4, Bool.or_comm]
          · rw [decide_eq_false h4, h2.clean j (by omega) (by omega)]; simp
        · rw [if_neg h3, decide_eq_false (show ¬ j < lb by omega)]; simp
      · rw [decide_eq_false hj, decide_eq_false (show ¬ j < lb by omega)]; rfl

theorem symd_any {w : World} {B B' p q la lb : Nat} {S S' : Nat → Bool} (hp : Bs w B p la S) (hq : Bs w B' q lb S') :
    Calls Try.prog 68 #[.pointer (some ⟨p, 0, none⟩), .pointer (some ⟨q, 0, none⟩)] w fun e w' => ∃ r, e = .returned (.pointer (some ⟨r, 0, none⟩)) ∧
      Bs w' w.heap.size r (max la lb) (fun j => S j != S' j) ∧ Below w.heap.size w w' := by
  obtain ⟨b1, n1, c1, f1, h1, _, _, _, l1, s1⟩ := hp
  obtain ⟨b2, n2, c2, f2, h2, _, _, _, l2, s2⟩ := hq
  by_cases hle : la ≤ lb
  · refine (symd_a h1 h2 hle (by omega)).mono ?_
    rintro e w' ⟨r, b', g, rfl, hB, hg, hO, hr, hb'⟩
    refine ⟨r, rfl, ⟨b', _, _, g, by rw [Nat.max_eq_right hle]; exact hB, hr, hb', ?_, by omega, fun j => ?_⟩, hO⟩
    · have := hB.n_eq; unfold wn at this; omega
    · have e1 := h1.n_eq
      have e2 := h2.n_eq
      unfold wn at e1 e2
      show (S j != S' j) = _
      rw [s1, s2, Nat.max_eq_right hle]
      by_cases hj : j < lb
      · unfold bit
        rw [hg _ (by omega), decide_eq_true hj]
        by_cases h3 : j / 64 < n1
        · rw [if_pos h3, wXor_tb]
          by_cases h4 : j < la
          · simp [h4]
          · rw [decide_eq_false h4, h1.clean j (by omega) (by omega)]; simp
        · rw [if_neg h3, decide_eq_false (show ¬ j < la by omega)]; simp
      · rw [decide_eq_false hj, decide_eq_false (show ¬ j < la by omega)]; rfl
  · refine (symd_b h2 h1 (by omega) (by omega)).mono ?_
    rintro e w' ⟨r, b', g, rfl, hB, hg, hO, hr, hb'⟩
    refine ⟨r, rfl, ⟨b', _, _, g, by rw [Nat.max_eq_left (show lb ≤ la by omega)]; exact hB, hr, hb', ?_, by omega, fun j => ?_⟩, hO⟩
    · have := hB.n_eq; unfold wn at this; omega
    · have e1 := h1.n_eq
      have e2 := h2.n_eq
      unfold wn at e1 e2
      show (S j != S' j) = _
      rw [s1, s2, Nat.max_eq_left (show lb ≤ la by omega)]
      by_cases hj : j < la
      · unfold bit
        rw [hg _ (by omega), decide_eq_true hj]
        by_cases h3 : j / 64 < n2
        · rw [if_pos h3, wXor_tb]
          by_cases h4 : j < lb
          · simp [h4, bne_comm]
          · rw [decide_eq_false h4, h2.clean j (by omega) (by omega)]; simp
        · rw [if_neg h3, decide_eq_false (show ¬ j < lb by omega)]; simp
      · rw [decide_eq_false hj, decide_eq_false (show ¬ j < lb by omega)]; rfl
end Go.Proofs.Ytpmnpaannbhoeaa
