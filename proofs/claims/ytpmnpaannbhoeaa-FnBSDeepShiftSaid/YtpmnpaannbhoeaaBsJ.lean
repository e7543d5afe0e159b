/- Bits between two places of a set; the rank of a place. -/
import Derived.Test.YtpmnpaannbhoeaaBsI
namespace Go.Proofs.Ytpmnpaannbhoeaa
open Go.RowKit Pop

theorem between_any {w : World} {B p len : Nat} {S : Nat → Bool} (h : Bs w B p len S) (x to : Nat) (hx : x ≤ to) (hto : to ≤ 100000) :
    Calls Try.prog 63 #[.pointer (some ⟨p, 0, none⟩), .int .u64 x, .int .u64 to] w fun e' w' => e' = .returned (.int .u64 ((cd S to - cd S x : Nat) : Int)) ∧ w = w' := by
  have hout := h.out
  obtain ⟨b, n, c, f, h1, h2, h3, h4, h5, hS⟩ := h
  obtain ⟨y, hy⟩ : ∃ y, min to len = y := ⟨_, rfl⟩
  have hcy : cd S to = cd S y := by
    by_cases hc : len < to
    · obtain rfl : y = len := by omega
      exact cd_more (by omega) hout
    · obtain rfl : y = to := by omega
      rfl
  have hnl : len ≤ 64 * n := by rw [h1.n_eq]; unfold wn; omega
  rw [hcy]
  by_cases hxy : y ≤ x
  · have := cd_mono (S := S) hxy
    rw [show cd S y - cd S x = 0 by omega]
    exact ones_zero h1 x to (by omega) h5 hto
  · obtain ⟨k, s, hk, hs⟩ : ∃ k s, x = 64 * k + s ∧ s < 64 := ⟨x / 64, x % 64, by omega, Nat.mod_lt _ (by decide)⟩
    obtain ⟨m, e, hm, he⟩ : ∃ k s, y = 64 * k + s ∧ s < 64 := ⟨y / 64, y % 64, by omega, Nat.mod_lt _ (by decide)⟩
    have g1 := cd_word h1 hS (k := k) (e := s) (by omega) (by omega)
    rw [← hk] at g1
    by_cases hkm : k = m
    · subst hkm
      have g2 := cd_word h1 hS (k := k) (e := e) (by omega) (by omega)
      rw [← hm] at g2
      have g3 := pc_both (f k) e s hs (by omega) he
      rw [show cd S y - cd S x = pc 64 (f k &&& mBoth e s) by omega]
      exact ones_one h1 x y to k s e hk hm (by omega) he hy h5 hto
    · have hlt : k < m := by omega
      have g2 := cd_word h1 hS (k := k) (e := 64) (by omega) (Nat.le_refl _)
      rw [show 64 * k + 64 = 64 * (k + 1) by omega] at g2
      have g3 := pc_high (f k) s hs
      have g4 := cd_words h1 hS (k + 1) (m - (k + 1)) (by omega)
      rw [show k + 1 + (m - (k + 1)) = m by omega] at g4
      have g5 : cd S y = cd S (64 * m) + (if 0 < e then pc 64 (f m &&& mLow e) else 0) := by
        by_cases he0 : 0 < e
        · rw [if_pos he0, pc_low _ _ (by omega), hm]
          exact cd_word h1 hS (by omega) (by omega)
        · rw [if_neg he0, hm, show e = 0 by omega]; rfl
      by_cases hmid : k + 1 < m
      · by_cases he0 : 0 < e
        · rw [if_pos he0] at g5
          rw [show cd S y - cd S x = pc 64 (f k &&& mHigh s) + psum (fun i => f (k + 1 + i)) (m - (k + 1)) + pc 64 (f m &&& mLow e) by omega]
          exact ones_many_11 h1 x y to k s m e hk hm hs he hmid he0 hy h5 hto
        · rw [if_neg he0] at g5
          rw [show cd S y - cd S x = pc 64 (f k &&& mHigh s) + psum (fun i => f (k + 1 + i)) (m - (k + 1)) by omega]
          exact ones_many_10 h1 x y to k s m e hk hm hs he hmid (by omega) hy h5 hto
      · have g6 : psum (fun i => f (k + 1 + i)) (m - (k + 1)) = 0 := by rw [show m - (k + 1) = 0 by omega]; rfl
        rw [g6] at g4
        by_cases he0 : 0 < e
        · rw [if_pos he0] at g5
          rw [show cd S y - cd S x = pc 64 (f k &&& mHigh s) + pc 64 (f m &&& mLow e) by omega]
          exact ones_many_01 h1 x y to k s m e hk hm hs he (by omega) he0 hy h5 hto
        · rw [if_neg he0] at g5
          rw [show cd S y - cd S x = pc 64 (f k &&& mHigh s) by omega]
          exact ones_many_00 h1 x y to k s m e hk hm hs he (by omega) (by omega) hy h5 hto

/-- The lowest bits of a word, pushed up to its top. -/
theorem pc_shl (x r : Nat) (hr : r < 64) : pc 64 (x * 2 ^ (63 - r) % 18446744073709551616) = cd x.testBit (r + 1) := by
  have h := cd_add (x * 2 ^ (63 - r) % 18446744073709551616).testBit (63 - r) (r + 1)
  rw [show 63 - r + (r + 1) = 64 by omega] at h
  have e : ∀ j, j < 64 → (x * 2 ^ (63 - r) % 18446744073709551616).testBit j = (decide (63 - r ≤ j) && x.testBit (j - (63 - r))) := fun j hj => by
    rw [show (18446744073709551616 : Nat) = 2 ^ 64 from rfl, Nat.testBit_mod_two_pow, decide_eq_true hj, Bool.true_and, Nat.mul_comm, Nat.testBit_two_pow_mul]
  have z : cd (x * 2 ^ (63 - r) % 18446744073709551616).testBit (63 - r) = 0 := by
    rw [cd_congr (T := fun _ => false) (63 - r) fun j hj => by rw [e j (by omega), decide_eq_false (by omega), Bool.false_and]]
    exact cd_more (S := fun _ => false) (Nat.zero_le _) fun _ _ => rfl
  rw [pc_cd, h, z, Nat.zero_add]
  exact cd_congr (r + 1) fun j hj => by
    rw [e _ (by omega), decide_eq_true (by omega), Bool.true_and, show 63 - r + j - (63 - r) = j by omega]

set_option maxRecDepth 100000 in
set_option maxHeartbeats 1000000 in
theorem rank_in {w : World} {p b n c len : Nat} {f : Nat → Nat} (h : BSet w p b n c len f) (i k r : Nat) (hi : i = 64 * k + r) (hr : r < 64) (hkn : k < n) (hl : len ≤ 100000) (hi2 : i ≤ 100000) :
    Calls Try.prog 62 #[.pointer (some ⟨p, 0, none⟩), .int .u64 i] w fun e' w' => e' = .returned (.int .u64 (psum f k + cd (f k).testBit (r + 1) : Nat)) ∧ w = w' := by

  have x1 := h.set_cell
  have hnn : n ≤ 20000 := by rw [h.n_eq]; unfold wn; omega
  have a1 : (i : Int) / 64 = (k : Int) := by omega
  have hnf : decide (n < k) = false := decide_eq_false (by omega)
  have a3 : bits BinOp.and IntKind.u64 (i : Int) 63 = (r : Int) := by rw [and63 i (by omega)]; omega
  obtain ⟨q, hq⟩ : ∃ q : Nat, q = 63 - r := ⟨_, rfl⟩
  have a4 : (63 : Int) - (r : Int) = (q : Int) := by omega
  have hps := pc_shl (f k) r hr
  rw [← hq] at hps
  have hz : f k * 2 ^ q % 18446744073709551616 < 18446744073709551616 := Nat.mod_lt _ (by decide)
  have HO := Lib.hid (ones_any (f k * 2 ^ q % 18446744073709551616) w hz)
  rw [hps] at HO
  have hzI : IntKind.u64.wrap ((f k : Int) * 2 ^ q) = ((f k * 2 ^ q % 18446744073709551616 : Nat) : Int) := by
    rw [IntKind.wrap_u64, Int.natCast_emod, Int.natCast_mul, Int.natCast_pow]; rfl
  have HZ := Lib.hid hzI
  have hq3 := cd_le (f k).testBit (r + 1)
  generalize f k * 2 ^ q % 18446744073709551616 = z at *
  generalize cd (f k).testBit (r + 1) = q3 at *
  have c0 := h.word hkn
  clear hq hps hz hzI
  have H := Lib.hid h
  clear h hi
  go_enter Try.func62, Try.ntmps62
  go_wp2_with fail
  go_loop [4, 7, 8] (fun rv jv _ => ∃ j s : Nat, j ≤ k ∧ jv = .int .i64 j ∧ rv = .int .u64 s ∧ Hid (s = psum f j)) (fun _ jv _ => k - (intOf jv).toNat)
  case atStart => exact ⟨0, 0, by omega, rfl, rfl, rfl⟩
  case round =>
    obtain ⟨j, s, hj, rfl, rfl, hR⟩ := hrel
    have HR : Hid (s = psum f j) := hR
    clear hR
    have hss : s ≤ 64 * 20000 := by have := HR.out; have := psum_le f j; omega
    by_cases hjd : j < k
    · have c1 := H.out.word (i := j) (by omega)
      by_cases hz0 : f j = 0
      · rw [hz0] at c1
        have HS : Hid (s = psum f (j + 1)) := by
          have e := HR.out
          show s = psum f j + pc 64 (f j)
          rw [hz0, e]; rfl
        clear hz0
        go_wp2_with fail
        go_round
        case rel => exact ⟨j + 1, s, by omega, by go_num, rfl, HS.out⟩
        case measure => simp [intOf]; omega
      · have HO2 := Lib.hid (ones_any (f j) w (H.out.small j))
        have HS : Hid (s + pc 64 (f j) = psum f (j + 1)) := by
          have e := HR.out
          show s + pc 64 (f j) = psum f j + pc 64 (f j)
          rw [e]
        have hp := pc_le64 64 (f j)
        generalize pc 64 (f j) = pj at *
        go_wp2_with fail
        refine HO2.out.mono ?_; rintro e' w' ⟨rfl, rfl⟩
        go_wp2_with fail
        go_round
        case rel => exact ⟨j + 1, s + pj, by omega, by go_num, by go_num, HS.out⟩
        case measure => simp [intOf]; omega
    · have hjj : j = k := by omega
      have HK := Lib.hid hjj
      clear hjj
      go_wp2_with fail
      rw [HZ.out]
      refine HO.out.mono ?_; rintro e' w' ⟨rfl, rfl⟩
      go_wp2_with fail
      go_ret
      refine ⟨retI ?_, rfl⟩
      rw [HR.out, HK.out]; rfl

set_option maxRecDepth 100000 in
set_option maxHeartbeats 1000000 in
theorem rank_out {w : World} {p b n c len : Nat} {f : Nat → Nat} (h : BSet w p b n c len f) (i k r : Nat) (hi : i = 64 * k + r) (hr : r < 64) (hkn : n < k) (hl : len ≤ 100000) (hi2 : i ≤ 100000) :
    Calls Try.prog 62 #[.pointer (some ⟨p, 0, none⟩), .int .u64 i] w fun e' w' => e' = .returned (.int .u64 (psum f n : Nat)) ∧ w = w' := by

  have x1 := h.set_cell
  have hnn : n ≤ 20000 := by rw [h.n_eq]; unfold wn; omega
  have a1 : (i : Int) / 64 = (k : Int) := by omega
  have H := Lib.hid h
  clear h hi
  go_enter Try.func62, Try.ntmps62
  go_wp2_with fail
  go_loop [4, 7, 8] (fun rv jv _ => ∃ j s : Nat, j ≤ n ∧ jv = .int .i64 j ∧ rv = .int .u64 s ∧ Hid (s = psum f j)) (fun _ jv _ => n - (intOf jv).toNat)
  case atStart => exact ⟨0, 0, by omega, rfl, rfl, rfl⟩
  case round =>
    obtain ⟨j, s, hj, rfl, rfl, hR⟩ := hrel
    have HR : Hid (s = psum f j) := hR
    clear hR
    have hss : s ≤ 64 * 20000 := by have := HR.out; have := psum_le f j; omega
    by_cases hjd : j < n
    · have c1 := H.out.word (i := j) (by omega)
      by_cases hz0 : f j = 0
      · rw [hz0] at c1
        have HS : Hid (s = psum f (j + 1)) := by
          have e := HR.out
          show s = psum f j + pc 64 (f j)
          rw [hz0, e]; rfl
        clear hz0
        go_wp2_with fail
        go_round
        case rel => exact ⟨j + 1, s, by omega, by go_num, rfl, HS.out⟩
        case measure => simp [intOf]; omega
      · have HO2 := Lib.hid (ones_any (f j) w (H.out.small j))
        have HS : Hid (s + pc 64 (f j) = psum f (j + 1)) := by
          have e := HR.out
          show s + pc 64 (f j) = psum f j + pc 64 (f j)
          rw [e]
        have hp := pc_le64 64 (f j)
        generalize pc 64 (f j) = pj at *
        go_wp2_with fail
        refine HO2.out.mono ?_; rintro e' w' ⟨rfl, rfl⟩
        go_wp2_with fail
        go_round
        case rel => exact ⟨j + 1, s + pj, by omega, by go_num, by go_num, HS.out⟩
        case measure => simp [intOf]; omega
    · have hjj : j = n := by omega
      have HK := Lib.hid hjj
      clear hjj
      go_wp2_with fail
      go_ret
      refine ⟨retI ?_, rfl⟩
      rw [HR.out, HK.out]

set_option maxRecDepth 100000 in
set_option maxHeartbeats 1000000 in
theorem rank_eq {w : World} {p b n c len : Nat} {f : Nat → Nat} (h : BSet w p b n c len f) (i k r : Nat) (hi : i = 64 * k + r) (hr : r < 64) (hkn : n = k) (hl : len ≤ 100000) (hi2 : i ≤ 100000) :
    Calls Try.prog 62 #[.pointer (some ⟨p, 0, none⟩), .int .u64 i] w fun e' w' => e' = .returned (.int .u64 (psum f n : Nat)) ∧ w = w' := by
  obtain rfl := hkn.symm
  have x1 := h.set_cell
  have hnn : k ≤ 20000 := by rw [h.n_eq]; unfold wn; omega
  have a1 : (i : Int) / 64 = (k : Int) := by omega
  have H := Lib.hid h
  clear h hi
  go_enter Try.func62, Try.ntmps62
  go_wp2_with fail
  go_loop [4, 7, 8] (fun rv jv _ => ∃ j s : Nat, j ≤ k ∧ jv = .int .i64 j ∧ rv = .int .u64 s ∧ Hid (s = psum f j)) (fun _ jv _ => k - (intOf jv).toNat)
  case atStart => exact ⟨0, 0, by omega, rfl, rfl, rfl⟩
  case round =>
    obtain ⟨j, s, hj, rfl, rfl, hR⟩ := hrel
    have HR : Hid (s = psum f j) := hR
    clear hR
    have hss : s ≤ 64 * 20000 := by have := HR.out; have := psum_le f j; omega
    by_cases hjd : j < k
    · have c1 := H.out.word (i := j) (by omega)
      by_cases hz0 : f j = 0
      · rw [hz0] at c1
        have HS : Hid (s = psum f (j + 1)) := by
          have e := HR.out
          show s = psum f j + pc 64 (f j)
          rw [hz0, e]; rfl
        clear hz0
        go_wp2_with fail
        go_round
        case rel => exact ⟨j + 1, s, by omega, by go_num, rfl, HS.out⟩
        case measure => simp [intOf]; omega
      · have HO2 := Lib.hid (ones_any (f j) w (H.out.small j))
        have HS : Hid (s + pc 64 (f j) = psum f (j + 1)) := by
          have e := HR.out
          show s + pc 64 (f j) = psum f j + pc 64 (f j)
          rw [e]
        have hp := pc_le64 64 (f j)
        generalize pc 64 (f j) = pj at *
        go_wp2_with fail
        refine HO2.out.mono ?_; rintro e' w' ⟨rfl, rfl⟩
        go_wp2_with fail
        go_round
        case rel => exact ⟨j + 1, s + pj, by omega, by go_num, by go_num, HS.out⟩
        case measure => simp [intOf]; omega
    · have hjj : j = k := by omega
      have HK := Lib.hid hjj
      clear hjj
      go_wp2_with fail
      go_ret
      refine ⟨retI ?_, rfl⟩
      rw [HR.out, HK.out]

theorem rank_any {w : World} {B p len : Nat} {S : Nat → Bool} (h : Bs w B p len S) (i : Nat) (hi : i ≤ 100000) :
    Calls Try.prog 62 #[.pointer (some ⟨p, 0, none⟩), .int .u64 i] w fun e' w' => e' = .returned (.int .u64 (cd S (i + 1))) ∧ w = w' := by
  have hout := h.out
  obtain ⟨b, n, c, f, h1, h2, h3, h4, h5, hS⟩ := h
  have hnl : len ≤ 64 * n := by rw [h1.n_eq]; unfold wn; omega
  obtain ⟨k, r, hk, hr⟩ : ∃ k s, i = 64 * k + s ∧ s < 64 := ⟨i / 64, i % 64, by omega, Nat.mod_lt _ (by decide)⟩
  have h0 : psum f n = cd S len := psum_set h1 hS
  by_cases hkn : k < n
  · have g1 := cd_words h1 hS 0 k (by omega)
    rw [Nat.zero_add, Nat.mul_zero, show cd S 0 = 0 from rfl, Nat.zero_add, show (fun i => f (0 + i)) = f from funext fun i => by rw [Nat.zero_add]] at g1
    have g2 := cd_word h1 hS (k := k) (e := r + 1) hkn (by omega)
    rw [← Nat.add_assoc, ← hk, g1] at g2
    rw [g2]
    exact rank_in h1 i k r hk hr hkn h5 hi
  · rw [cd_more (S := S) (show len ≤ i + 1 by omega) hout, ← h0]
    rcases Nat.lt_or_ge n k with hlt | hge
    · exact rank_out h1 i k r hk hr hlt h5 hi
    · exact rank_eq h1 i k r hk hr (by omega) h5 hi

set_option maxHeartbeats 400000 in
theorem iBetween {w : World} {v : Value} {len : Nat} {S : Nat → Bool} (h : IsBits w v len S) (x to : Nat) (hx : x ≤ to) (hto : to ≤ 100000) :
    Calls Try.prog 28 #[v, .int .u64 x, .int .u64 to] w fun e w' => e = .returned (.int .u64 ((cd S to - cd S x : Nat) : Int)) ∧ Below w.heap.size w w' := by
  have H := Lib.hid h
  obtain ⟨so, n, cp, rfl⟩ := h.shape
  clear h
  go_enter Try.func28, Try.ntmps28
  go_wp2_with fail
  refine (set64_any (H.out.same ((Below.refl _ _).alloc (Nat.le_refl _) _))).mono ?_
  rintro e w1 ⟨p, rfl, hB, hb⟩
  simp at hB hb
  have HB : Hid (Bs w1 (w.heap.size + 1) p len S ∧ Below w.heap.size w w1) := ⟨hB, ((Below.refl _ _).alloc (Nat.le_refl _) _).trans (hb.mono (by omega))⟩
  clear hB hb
  go_wp2_with fail
  refine (between_any HB.out.1 x to hx hto).mono ?_
  rintro e w2 ⟨rfl, rfl⟩
  go_wp2_with fail
  go_ret
  exact ⟨rfl, HB.out.2⟩

set_option maxHeartbeats 400000 in
theorem iRank {w : World} {v : Value} {len : Nat} {S : Nat → Bool} (h : IsBits w v len S) (i : Nat) (hi : i ≤ 100000) :
    Calls Try.prog 27 #[v, .int .u64 i] w fun e w' => e = .returned (.int .u64 (cd S (i + 1))) ∧ Below w.heap.size w w' := by
  have H := Lib.hid h
  obtain ⟨so, n, cp, rfl⟩ := h.shape
  clear h
  go_enter Try.func27, Try.ntmps27
  go_wp2_with fail
  refine (set64_any (H.out.same ((Below.refl _ _).alloc (Nat.le_refl _) _))).mono ?_
  rintro e w1 ⟨p, rfl, hB, hb⟩
  simp at hB hb
  have HB : Hid (Bs w1 (w.heap.size + 1) p len S ∧ Below w.heap.size w w1) := ⟨hB, ((Below.refl _ _).alloc (Nat.le_refl _) _).trans (hb.mono (by omega))⟩
  clear hB hb
  go_wp2_with fail
  refine (rank_any HB.out.1 i hi).mono ?_
  rintro e w2 ⟨rfl, rfl⟩
  go_wp2_with fail
  go_ret
  exact ⟨rfl, HB.out.2⟩

end Go.Proofs.Ytpmnpaannbhoeaa
