/- The bitset's operations in place, as operations on sets; the thin package's functions over them. -/
import Derived.Test.YtpmnpaannbhoeaaBsD
namespace Go.Proofs.Ytpmnpaannbhoeaa
open Go.RowKit

theorem ipu_any {w1 w : World} {B p q la lb : Nat} {S S' : Nat → Bool} (hp : Bs w1 B p la S) (hb : Below w1.heap.size w1 w) (hq : Bs w w1.heap.size q lb S') :
    Calls Try.prog 66 #[.pointer (some ⟨p, 0, none⟩), .pointer (some ⟨q, 0, none⟩)] w fun e w' => e = .returned (.tuple #[]) ∧
      Bs w' B p (max la lb) (fun j => S j || S' j) ∧ Below B w w' := by
  obtain ⟨b1, n1, c1, f1, h1, hBp, hBb, hc1, l1, s1⟩ := hp
  obtain ⟨b2, n2, c2, f2, h2, hqp, hqb, hc2, l2, s2⟩ := hq
  have hx := h1.below hb h1.plt h1.blt
  have hap : Apart p b1 q b2 := by have := h1.plt; have := h1.blt; unfold Apart; omega
  have hBw : B ≤ w.heap.size := by have := h1.plt; have := hb.size; omega
  have e1 := h1.n_eq
  have e2 := h2.n_eq
  clear h1
  have grow : ∀ (hlt : la < lb), Calls Try.prog 66 #[.pointer (some ⟨p, 0, none⟩), .pointer (some ⟨q, 0, none⟩)] w fun e w' => e = .returned (.tuple #[]) ∧
      ∃ b2 c2 g, BSet w' p b2 n2 c2 lb g ∧ (∀ i, i < n2 → g i = if i < n1 then wOr (f1 i) (f2 i) else f2 i) ∧ Only [p, b1] w w' ∧ (b2 = b1 ∨ w.heap.size ≤ b2) ∧ c2 ≤ 200000 := by
    intro hlt
    rcases Nat.lt_or_ge n1 n2 with hn | hn
    · rcases Nat.eq_zero_or_pos n1 with h0 | h0
      · exact ipu_A0 hx h2 hap hlt hn h0 l2 l1 hc1
      · exact ipu_A1 hx h2 hap hlt hn h0 l2 l1 hc1
    · exact ipu_A2 hx h2 hap hlt (by unfold wn at e1 e2; omega) l2 l1 hc1
  have keep : ∀ (hle : lb ≤ la), Calls Try.prog 66 #[.pointer (some ⟨p, 0, none⟩), .pointer (some ⟨q, 0, none⟩)] w fun e w' => e = .returned (.tuple #[]) ∧
      ∃ g, BSet w' p b1 n1 c1 la g ∧ (∀ i, i < n1 → g i = if i < n2 then wOr (f1 i) (f2 i) else f1 i) ∧ Only [p, b1] w w' := by
    intro hle
    rcases Nat.eq_zero_or_pos n2 with h0 | h0
    · exact ipu_B0 hx h2 hap hle h0 l2 l1 hc1
    · exact ipu_B1 hx h2 hap hle h0 l2 l1 hc1
  by_cases hlt : la < lb
  · refine (grow hlt).mono ?_
    rintro e w' ⟨rfl, b', c', g, hB, hg, hO, hb', hc'⟩
    refine ⟨rfl, ⟨b', n2, c', g, by rw [Nat.max_eq_right (by omega)]; exact hB, hBp, by omega, hc', by omega, fun j => ?_⟩, hO.below hBw (by simp; omega)⟩
    unfold wn at e1 e2
    show (S j || S' j) = _
    rw [s1, s2, Nat.max_eq_right (by omega)]
    by_cases hj : j < lb
    · unfold bit
      rw [hg _ (by omega), decide_eq_true hj]
      by_cases h3 : j / 64 < n1
      · rw [if_pos h3, wOr_tb]
        by_cases h4 : j < la
        · simp [h4]
        · rw [decide_eq_false h4, hx.clean j (by omega) (by omega)]; simp
      · rw [if_neg h3, decide_eq_false (show ¬ j < la by omega)]; simp
    · rw [decide_eq_false hj, decide_eq_false (show ¬ j < la by omega)]; rfl
  · refine (keep (by omega)).mono ?_
    rintro e w' ⟨rfl, g, hB, hg, hO⟩
    refine ⟨rfl, ⟨b1, n1, c1, g, by rw [Nat.max_eq_left (by omega)]; exact hB, hBp, by omega, hc1, by omega, fun j => ?_⟩, hO.below hBw (by simp; omega)⟩
    unfold wn at e1 e2
    show (S j || S' j) = _
    rw [s1, s2, Nat.max_eq_left (by omega)]
    by_cases hj : j < la
    · unfold bit
      rw [hg _ (by omega), decide_eq_true hj]
      by_cases h3 : j / 64 < n2
      · rw [if_pos h3, wOr_tb]
        by_cases h4 : j < lb
        · simp [h4]
        · rw [decide_eq_false h4, h2.clean j (by omega) (by omega)]; simp
      · rw [if_neg h3, decide_eq_false (show ¬ j < lb by omega)]; simp
    · rw [decide_eq_false hj, decide_eq_false (show ¬ j < lb by omega)]; rfl

theorem ips_any {w1 w : World} {B p q la lb : Nat} {S S' : Nat → Bool} (hp : Bs w1 B p la S) (hb : Below w1.heap.size w1 w) (hq : Bs w w1.heap.size q lb S') :
    Calls Try.prog 69 #[.pointer (some ⟨p, 0, none⟩), .pointer (some ⟨q, 0, none⟩)] w fun e w' => e = .returned (.tuple #[]) ∧
      Bs w' B p (max la lb) (fun j => S j != S' j) ∧ Below B w w' := by
  obtain ⟨b1, n1, c1, f1, h1, hBp, hBb, hc1, l1, s1⟩ := hp
  obtain ⟨b2, n2, c2, f2, h2, hqp, hqb, hc2, l2, s2⟩ := hq
  have hx := h1.below hb h1.plt h1.blt
  have hap : Apart p b1 q b2 := by have := h1.plt; have := h1.blt; unfold Apart; omega
  have hBw : B ≤ w.heap.size := by have := h1.plt; have := hb.size; omega
  have e1 := h1.n_eq
  have e2 := h2.n_eq
  clear h1
  have grow : ∀ (hlt : la < lb), Calls Try.prog 69 #[.pointer (some ⟨p, 0, none⟩), .pointer (some ⟨q, 0, none⟩)] w fun e w' => e = .returned (.tuple #[]) ∧
      ∃ b2 c2 g, BSet w' p b2 n2 c2 lb g ∧ (∀ i, i < n2 → g i = if i < n1 then wXor (f1 i) (f2 i) else f2 i) ∧ Only [p, b1] w w' ∧ (b2 = b1 ∨ w.heap.size ≤ b2) ∧ c2 ≤ 200000 := by
    intro hlt
    rcases Nat.lt_or_ge n1 n2 with hn | hn
    · rcases Nat.eq_zero_or_pos n1 with h0 | h0
      · exact ips_A0 hx h2 hap hlt hn h0 l2 l1 hc1
      · exact ips_A1 hx h2 hap hlt hn h0 l2 l1 hc1
    · exact ips_A2 hx h2 hap hlt (by unfold wn at e1 e2; omega) l2 l1 hc1
  have keep : ∀ (hle : lb ≤ la), Calls Try.prog 69 #[.pointer (some ⟨p, 0, none⟩), .pointer (some ⟨q, 0, none⟩)] w fun e w' => e = .returned (.tuple #[]) ∧
      ∃ g, BSet w' p b1 n1 c1 la g ∧ (∀ i, i < n1 → g i = if i < n2 then wXor (f1 i) (f2 i) else f1 i) ∧ Only [p, b1] w w' := by
    intro hle
    rcases Nat.eq_zero_or_pos n2 with h0 | h0
    · exact ips_B0 hx h2 hap hle h0 l2 l1 hc1
    · exact ips_B1 hx h2 hap hle h0 l2 l1 hc1
  by_cases hlt : la < lb
  · refine (grow hlt).mono ?_
    rintro e w' ⟨rfl, b', c', g, hB, hg, hO, hb', hc'⟩
    refine ⟨rfl, ⟨b', n2, c', g, by rw [Nat.max_eq_right (by omega)]; exact hB, hBp, by omega, hc', by omega, fun j => ?_⟩, hO.below hBw (by simp; omega)⟩
    unfold wn at e1 e2
    show (S j != S' j) = _
    rw [s1, s2, Nat.max_eq_right (by omega)]
    by_cases hj : j < lb
    · unfold bit
      rw [hg _ (by omega), decide_eq_true hj]
      by_cases h3 : j / 64 < n1
      · rw [if_pos h3, wXor_tb]
        by_cases h4 : j < la
        · simp [h4]
        · rw [decide_eq_false h4, hx.clean j (by omega) (by omega)]; simp
      · rw [if_neg h3, decide_eq_false (show ¬ j < la by omega)]; simp
    · rw [decide_eq_false hj, decide_eq_false (show ¬ j < la by omega)]; rfl
  · refine (keep (by omega)).mono ?_
    rintro e w' ⟨rfl, g, hB, hg, hO⟩
    refine ⟨rfl, ⟨b1, n1, c1, g, by rw [Nat.max_eq_left (by omega)]; exact hB, hBp, by omega, hc1, by omega, fun j => ?_⟩, hO.below hBw (by simp; omega)⟩
    unfold wn at e1 e2
    show (S j != S' j) = _
    rw [s1, s2, Nat.max_eq_left (by omega)]
    by_cases hj : j < la
    · unfold bit
      rw [hg _ (by omega), decide_eq_true hj]
      by_cases h3 : j / 64 < n2
      · rw [if_pos h3, wXor_tb]
        by_cases h4 : j < lb
        · simp [h4]
        · rw [decide_eq_false h4, h2.clean j (by omega) (by omega)]; simp
      · rw [if_neg h3, decide_eq_false (show ¬ j < lb by omega)]; simp
    · rw [decide_eq_false hj, decide_eq_false (show ¬ j < lb by omega)]; rfl

theorem ipi_any {w1 w : World} {B p q la lb : Nat} {S S' : Nat → Bool} (hp : Bs w1 B p la S) (hb : Below w1.heap.size w1 w) (hq : Bs w w1.heap.size q lb S') :
    Calls Try.prog 67 #[.pointer (some ⟨p, 0, none⟩), .pointer (some ⟨q, 0, none⟩)] w fun e w' => e = .returned (.tuple #[]) ∧
      Bs w' B p (max la lb) (fun j => S j && S' j) ∧ Below B w w' := by
  obtain ⟨b1, n1, c1, f1, h1, hBp, hBb, hc1, l1, s1⟩ := hp
  obtain ⟨b2, n2, c2, f2, h2, hqp, hqb, hc2, l2, s2⟩ := hq
  have hx := h1.below hb h1.plt h1.blt
  have hap : Apart p b1 q b2 := by have := h1.plt; have := h1.blt; unfold Apart; omega
  have hBw : B ≤ w.heap.size := by have := h1.plt; have := hb.size; omega
  have e1 := h1.n_eq
  have e2 := h2.n_eq
  clear h1
  have grow : ∀ (hlt : la < lb), Calls Try.prog 67 #[.pointer (some ⟨p, 0, none⟩), .pointer (some ⟨q, 0, none⟩)] w fun e w' => e = .returned (.tuple #[]) ∧
      ∃ b2 c2 g, BSet w' p b2 n2 c2 lb g ∧ (∀ i, i < n2 → g i = if i < n1 then wAnd (f1 i) (f2 i) else 0) ∧ Only [p, b1] w w' ∧ (b2 = b1 ∨ w.heap.size ≤ b2) ∧ c2 ≤ 200000 := by
    intro hlt
    rcases Nat.lt_or_ge n1 n2 with hn | hn
    · rcases Nat.eq_zero_or_pos n1 with h0 | h0
      · exact ipi_G0 hx h2 hap hlt hn h0 l2 l1 hc1
      · exact ipi_G1 hx h2 hap hlt hn h0 l2 l1 hc1
    · exact ipi_G2 hx h2 hap hlt (by unfold wn at e1 e2; omega) l2 l1 hc1
  have keep : ∀ (hle : lb ≤ la), Calls Try.prog 67 #[.pointer (some ⟨p, 0, none⟩), .pointer (some ⟨q, 0, none⟩)] w fun e w' => e = .returned (.tuple #[]) ∧
      ∃ g, BSet w' p b1 n1 c1 la g ∧ (∀ i, i < n1 → g i = if i < n2 then wAnd (f1 i) (f2 i) else 0) ∧ Only [p, b1] w w' := by
    intro hle
    rcases Nat.eq_zero_or_pos n2 with h0 | h0
    · exact ipi_B0 hx h2 hap hle h0 l2 l1 hc1
    · exact ipi_B1 hx h2 hap hle h0 l2 l1 hc1
  by_cases hlt : la < lb
  · refine (grow hlt).mono ?_
    rintro e w' ⟨rfl, b', c', g, hB, hg, hO, hb', hc'⟩
    refine ⟨rfl, ⟨b', n2, c', g, by rw [Nat.max_eq_right (by omega)]; exact hB, hBp, by omega, hc', by omega, fun j => ?_⟩, hO.below hBw (by simp; omega)⟩
    unfold wn at e1 e2
    show (S j && S' j) = _
    rw [s1, s2, Nat.max_eq_right (by omega)]
    by_cases hj : j < lb
    · unfold bit
      rw [hg _ (by omega), decide_eq_true hj]
      by_cases h3 : j / 64 < n1
      · rw [if_pos h3, wAnd_tb]
        by_cases h4 : j < la
        · simp [h4]
        · rw [decide_eq_false h4, hx.clean j (by omega) (by omega)]; simp
      · rw [if_neg h3, decide_eq_false (show ¬ j < la by omega)]; simp
    · rw [decide_eq_false hj, decide_eq_false (show ¬ j < la by omega)]; rfl
  · refine (keep (by omega)).mono ?_
    rintro e w' ⟨rfl, g, hB, hg, hO⟩
    refine ⟨rfl, ⟨b1, n1, c1, g, by rw [Nat.max_eq_left (by omega)]; exact hB, hBp, by omega, hc1, by omega, fun j => ?_⟩, hO.below hBw (by simp; omega)⟩
    unfold wn at e1 e2
    show (S j && S' j) = _
    rw [s1, s2, Nat.max_eq_left (by omega)]
    by_cases hj : j < la
    · unfold bit
      rw [hg _ (by omega), decide_eq_true hj]
      by_cases h3 : j / 64 < n2
      · rw [if_pos h3, wAnd_tb]
        by_cases h4 : j < lb
        · simp [h4]
        · rw [decide_eq_false h4, h2.clean j (by omega) (by omega)]; simp
      · rw [if_neg h3, decide_eq_false (show ¬ j < lb by omega)]; simp
    · rw [decide_eq_false hj, decide_eq_false (show ¬ j < lb by omega)]; rfl

set_option maxRecDepth 100000 in
set_option maxHeartbeats 1000000 in
theorem iIPUnion {w : World} {v v' : Value} {la lb : Nat} {S S' : Nat → Bool} (ha : IsBits w v la S) (hb : IsBits w v' lb S') :
    Calls Try.prog 31 #[v, v'] w (Gives w (max la lb) fun j => S j || S' j) := by
  obtain ⟨L, hL⟩ : ∃ L, L = max la lb := ⟨_, rfl⟩
  rw [← hL]
  have HL := Lib.hid hL
  clear hL
  have HA := Lib.hid ha
  have HB := Lib.hid hb
  obtain ⟨so, n, cp, rfl⟩ := ha.shape
  obtain ⟨so', n', cp', rfl⟩ := hb.shape
  clear ha hb
  go_enter Try.func31, Try.ntmps31
  go_wp2_with fail
  have HW := Lib.hid (boxed_new w la lb so n cp so' n' cp')
  generalize (((w.alloc (Obj.cells #[Value.int IntKind.u64 ↑la, Value.slice so n cp] 25)).alloc (Obj.cells #[Value.int IntKind.u64 ↑lb, Value.slice so' n' cp'] 25)).alloc (Obj.cells #[Value.int IntKind.u64 0, Value.slice none 0 0] 25)) = W at *
  have hR : w.heap.size + 1 + 1 < W.heap.size := by rw [HW.out.2.1]; omega
  refine (set64_any (HA.out.same HW.out.1)).mono ?_
  rintro e w1 ⟨p1, rfl, hB1, hb1⟩
  have G1 : Hid (Bs w1 W.heap.size p1 la S ∧ Below W.heap.size W w1) := ⟨hB1, hb1⟩
  obtain ⟨a0, a1, b0, b1⟩ := HW.out.cells hb1
  clear hB1 hb1
  go_wp2_with fail
  refine (set64_any (HB.out.same (HW.out.1.trans (G1.out.2.mono HW.out.1.size)))).mono ?_
  rintro e w2 ⟨p2, rfl, hB2, hb2⟩
  have G2 : Hid (Bs w2 w1.heap.size p2 lb S' ∧ Below w1.heap.size w1 w2 ∧ Below W.heap.size W w2) := ⟨hB2, hb2, G1.out.2.trans (hb2.mono G1.out.2.size)⟩
  clear hB2 hb2 a0 a1 b0 b1
  go_wp2_with fail
  refine (ipu_any G1.out.1 G2.out.2.1 G2.out.1).mono ?_
  rintro e w3 ⟨rfl, hB3, hb3⟩
  have G3 : Hid (Bs w3 W.heap.size p1 L (fun j => S j || S' j) ∧ Below W.heap.size W w3) := ⟨by rw [HL.out]; exact hB3, G2.out.2.2.trans hb3⟩
  clear hB3 hb3
  go_wp2_with fail
  refine (said64_any G3.out.1).mono ?_
  rintro e w4 ⟨v4, rfl, hv, hb4⟩
  obtain ⟨so4, n4, cp4, rfl⟩ := (hv w4 (fun _ _ _ => rfl)).shape
  have hk := (HW.out.2.2.2.2.below G3.out.2 hR).below hb4 (Nat.lt_of_lt_of_le hR G3.out.2.size)
  have HE := Lib.hid (gives_end (w := w) (by omega) (Nat.lt_of_lt_of_le hR G3.out.2.size) hk hv (HW.out.1.trans ((G3.out.2.trans (hb4.mono G3.out.2.size)).mono HW.out.1.size)))
  have e0 : w4.cell? ⟨w.heap.size + 1 + 1, 0, none⟩ = some (.int .u64 0) := hk.cell rfl
  have e1 : w4.cell? ⟨w.heap.size + 1 + 1, 1, none⟩ = some (.slice none 0 0) := hk.cell rfl
  have f0 := hk.free 0
  have f1 := hk.free 1
  clear hk hv hb4
  go_wp2_with fail
  have d0 := HE.out.1.cell (i := 0) rfl
  have d1 := HE.out.1.cell (i := 1) rfl
  refine bodyPost_ret (v := .agg #[.int .u64 L, .slice so4 n4 cp4]) ?_ rfl HE.out.2
  simp at d0 d1
  simp [results, Try.results31, go_sem, d0, d1]

set_option maxRecDepth 100000 in
set_option maxHeartbeats 1000000 in
theorem iIPSymd {w : World} {v v' : Value} {la lb : Nat} {S S' : Nat → Bool} (ha : IsBits w v la S) (hb : IsBits w v' lb S') :
    Calls Try.prog 34 #[v, v'] w (Gives w (max la lb) fun j => S j != S' j) := by
  obtain ⟨L, hL⟩ : ∃ L, L = max la lb := ⟨_, rfl⟩
  rw [← hL]
  have HL := Lib.hid hL
  clear hL
  have HA := Lib.hid ha
  have HB := Lib.hid hb
  obtain ⟨so, n, cp, rfl⟩ := ha.shape
  obtain ⟨so', n', cp', rfl⟩ := hb.shape
  clear ha hb
  go_enter Try.func34, Try.ntmps34
  go_wp2_with fail
  have HW := Lib.hid (boxed_new w la lb so n cp so' n' cp')
  generalize (((w.alloc (Obj.cells #[Value.int IntKind.u64 ↑la, Value.slice so n cp] 25)).alloc (Obj.cells #[Value.int IntKind.u64 ↑lb, Value.slice so' n' cp'] 25)).alloc (Obj.cells #[Value.int IntKind.u64 0, Value.slice none 0 0] 25)) = W at *
  have hR : w.heap.size + 1 + 1 < W.heap.size := by rw [HW.out.2.1]; omega
  refine (set64_any (HA.out.same HW.out.1)).mono ?_
  rintro e w1 ⟨p1, rfl, hB1, hb1⟩
  have G1 : Hid (Bs w1 W.heap.size p1 la S ∧ Below W.heap.size W w1) := ⟨hB1, hb1⟩
  obtain ⟨a0, a1, b0, b1⟩ := HW.out.cells hb1
  clear hB1 hb1
  go_wp2_with fail
  refine (set64_any (HB.out.same (HW.out.1.trans (G1.out.2.mono HW.out.1.size)))).mono ?_
  rintro e w2 ⟨p2, rfl, hB2, hb2⟩
  have G2 : Hid (Bs w2 w1.heap.size p2 lb S' ∧ Below w1.heap.size w1 w2 ∧ Below W.heap.size W w2) := ⟨hB2, hb2, G1.out.2.trans (hb2.mono G1.out.2.size)⟩
  clear hB2 hb2 a0 a1 b0 b1
  go_wp2_with fail
  refine (ips_any G1.out.1 G2.out.2.1 G2.out.1).mono ?_
  rintro e w3 ⟨rfl, hB3, hb3⟩
  have G3 : Hid (Bs w3 W.heap.size p1 L (fun j => S j != S' j) ∧ Below W.heap.size W w3) := ⟨by rw [HL.out]; exact hB3, G2.out.2.2.trans hb3⟩
  clear hB3 hb3
  go_wp2_with fail
  refine (said64_any G3.out.1).mono ?_
  rintro e w4 ⟨v4, rfl, hv, hb4⟩
  obtain ⟨so4, n4, cp4, rfl⟩ := (hv w4 (fun _ _ _ => rfl)).shape
  have hk := (HW.out.2.2.2.2.below G3.out.2 hR).below hb4 (Nat.lt_of_lt_of_le hR G3.out.2.size)
  have HE := Lib.hid (gives_end (w := w) (by omega) (Nat.lt_of_lt_of_le hR G3.out.2.size) hk hv (HW.out.1.trans ((G3.out.2.trans (hb4.mono G3.out.2.size)).mono HW.out.1.size)))
  have e0 : w4.cell? ⟨w.heap.size + 1 + 1, 0, none⟩ = some (.int .u64 0) := hk.cell rfl
  have e1 : w4.cell? ⟨w.heap.size + 1 + 1, 1, none⟩ = some (.slice none 0 0) := hk.cell rfl
  have f0 := hk.free 0
  have f1 := hk.free 1
  clear hk hv hb4
  go_wp2_with fail
  have d0 := HE.out.1.cell (i := 0) rfl
  have d1 := HE.out.1.cell (i := 1) rfl
  refine bodyPost_ret (v := .agg #[.int .u64 L, .slice so4 n4 cp4]) ?_ rfl HE.out.2
  simp at d0 d1
  simp [results, Try.results34, go_sem, d0, d1]

set_option maxRecDepth 100000 in
set_option maxHeartbeats 1000000 in
theorem iIPInter {w : World} {v v' : Value} {la lb : Nat} {S S' : Nat → Bool} (ha : IsBits w v la S) (hb : IsBits w v' lb S') :
    Calls Try.prog 32 #[v, v'] w (Gives w (max la lb) fun j => S j && S' j) := by
  obtain ⟨L, hL⟩ : ∃ L, L = max la lb := ⟨_, rfl⟩
  rw [← hL]
  have HL := Lib.hid hL
  clear hL
  have HA := Lib.hid ha
  have HB := Lib.hid hb
  obtain ⟨so, n, cp, rfl⟩ := ha.shape
  obtain ⟨so', n', cp', rfl⟩ := hb.shape
  clear ha hb
  go_enter Try.func32, Try.ntmps32
  go_wp2_with fail
  have HW := Lib.hid (boxed_new w la lb so n cp so' n' cp')
  generalize (((w.alloc (Obj.cells #[Value.int IntKind.u64 ↑la, Value.slice so n cp] 25)).alloc (Obj.cells #[Value.int IntKind.u64 ↑lb, Value.slice so' n' cp'] 25)).alloc (Obj.cells #[Value.int IntKind.u64 0, Value.slice none 0 0] 25)) = W at *
  have hR : w.heap.size + 1 + 1 < W.heap.size := by rw [HW.out.2.1]; omega
  refine (set64_any (HA.out.same HW.out.1)).mono ?_
  rintro e w1 ⟨p1, rfl, hB1, hb1⟩
  have G1 : Hid (Bs w1 W.heap.size p1 la S ∧ Below W.heap.size W w1) := ⟨hB1, hb1⟩
  obtain ⟨a0, a1, b0, b1⟩ := HW.out.cells hb1
  clear hB1 hb1
  go_wp2_with fail
  refine (set64_any (HB.out.same (HW.out.1.trans (G1.out.2.mono HW.out.1.size)))).mono ?_
  rintro e w2 ⟨p2, rfl, hB2, hb2⟩
  have G2 : Hid (Bs w2 w1.heap.size p2 lb S' ∧ Below w1.heap.size w1 w2 ∧ Below W.heap.size W w2) := ⟨hB2, hb2, G1.out.2.trans (hb2.mono G1.out.2.size)⟩
  clear hB2 hb2 a0 a1 b0 b1
  go_wp2_with fail
  refine (ipi_any G1.out.1 G2.out.2.1 G2.out.1).mono ?_
  rintro e w3 ⟨rfl, hB3, hb3⟩
  have G3 : Hid (Bs w3 W.heap.size p1 L (fun j => S j && S' j) ∧ Below W.heap.size W w3) := ⟨by rw [HL.out]; exact hB3, G2.out.2.2.trans hb3⟩
  clear hB3 hb3
  go_wp2_with fail
  refine (said64_any G3.out.1).mono ?_
  rintro e w4 ⟨v4, rfl, hv, hb4⟩
  obtain ⟨so4, n4, cp4, rfl⟩ := (hv w4 (fun _ _ _ => rfl)).shape
  have hk := (HW.out.2.2.2.2.below G3.out.2 hR).below hb4 (Nat.lt_of_lt_of_le hR G3.out.2.size)
  have HE := Lib.hid (gives_end (w := w) (by omega) (Nat.lt_of_lt_of_le hR G3.out.2.size) hk hv (HW.out.1.trans ((G3.out.2.trans (hb4.mono G3.out.2.size)).mono HW.out.1.size)))
  have e0 : w4.cell? ⟨w.heap.size + 1 + 1, 0, none⟩ = some (.int .u64 0) := hk.cell rfl
  have e1 : w4.cell? ⟨w.heap.size + 1 + 1, 1, none⟩ = some (.slice none 0 0) := hk.cell rfl
  have f0 := hk.free 0
  have f1 := hk.free 1
  clear hk hv hb4
  go_wp2_with fail
  have d0 := HE.out.1.cell (i := 0) rfl
  have d1 := HE.out.1.cell (i := 1) rfl
  refine bodyPost_ret (v := .agg #[.int .u64 L, .slice so4 n4 cp4]) ?_ rfl HE.out.2
  simp at d0 d1
  simp [results, Try.results32, go_sem, d0, d1]

/-- The lists of two bitsets with the same bits are one. -/
theorem lists_eq {la lb : Nat} {S S' : Nat → Bool} (ha : ∀ j, la ≤ j → S j = false) (hb : ∀ j, lb ≤ j → S' j = false) (h : ∀ j, S j = S' j) : (List.range la).filter S = (List.range lb).filter S' := by
  have e : S = S' := funext h
  subst e
  have key : ∀ a b, a ≤ b → (∀ j, a ≤ j → S j = false) → (List.range b).filter S = (List.range a).filter S := by
    intro a b hab hz
    obtain ⟨d, rfl⟩ : ∃ d, b = a + d := ⟨b - a, by omega⟩
    clear hab
    induction d with
    | zero => rfl
    | succ d ih => rw [← Nat.add_assoc, filter_succ, ih, hz (a + d) (by omega)]; simp
  rcases Nat.le_total la lb with h | h
  · exact (key la lb h ha).symm
  · exact key lb la h hb
theorem alike_true {w : World} {a b : Value} {la lb : Nat} {S S' : Nat → Bool} (ha : IsBits w a la S) (hb : IsBits w b lb S') (h : ∀ j, S j = S' j) :
    Calls Try.prog 18 #[a, b] w fun e w' => e = .returned (.bool true) ∧ Below w.heap.size w w' := by
  have h1 := alike_any ha hb
  rw [decide_eq_true (lists_eq ha.out hb.out h)] at h1
  exact h1
/-- Two boxed bitsets. -/
def Boxed2 (w W : World) (la lb : Nat) (so : Option Addr) (n cp : Nat) (so' : Option Addr) (n' cp' : Nat) : Prop :=
  Below w.heap.size w W ∧ W.heap.size = w.heap.size + 2 ∧ Blk W w.heap.size #[Value.int IntKind.u64 ↑la, Value.slice so n cp] 25 ∧ Blk W (w.heap.size + 1) #[Value.int IntKind.u64 ↑lb, Value.slice so' n' cp'] 25
theorem boxed2_new (w : World) (la lb : Nat) (so : Option Addr) (n cp : Nat) (so' : Option Addr) (n' cp' : Nat) :
    Boxed2 w ((w.alloc (Obj.cells #[Value.int IntKind.u64 ↑la, Value.slice so n cp] 25)).alloc (Obj.cells #[Value.int IntKind.u64 ↑lb, Value.slice so' n' cp'] 25)) la lb so n cp so' n' cp' := by
  refine ⟨((Below.refl _ _).alloc (Nat.le_refl _) _).alloc (by simp) _, by simp, (Blk.new _ _ _).alloc _, ?_⟩
  have := Blk.new (w.alloc (Obj.cells #[Value.int IntKind.u64 ↑la, Value.slice so n cp] 25)) #[Value.int IntKind.u64 ↑lb, Value.slice so' n' cp'] 25
  simp at this
  exact this
theorem Boxed2.cells {w W W' : World} {la lb : Nat} {so : Option Addr} {n cp : Nat} {so' : Option Addr} {n' cp' : Nat} (h : Boxed2 w W la lb so n cp so' n' cp') (hb : Below W.heap.size W W') :
    W'.cell? ⟨w.heap.size, 0, none⟩ = some (.int .u64 la) ∧ W'.cell? ⟨w.heap.size, 1, none⟩ = some (.slice so n cp) ∧ W'.cell? ⟨w.heap.size + 1, 0, none⟩ = some (.int .u64 lb) ∧ W'.cell? ⟨w.heap.size + 1, 1, none⟩ = some (.slice so' n' cp') := by
  obtain ⟨h1, h2, h3, h4⟩ := h
  exact ⟨(h3.below hb (by omega)).cell rfl, (h3.below hb (by omega)).cell rfl, (h4.below hb (by omega)).cell rfl, (h4.below hb (by omega)).cell rfl⟩

end Go.Proofs.Ytpmnpaannbhoeaa
