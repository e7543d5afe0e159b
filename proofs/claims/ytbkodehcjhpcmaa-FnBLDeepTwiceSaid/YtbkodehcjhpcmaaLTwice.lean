/- FnBLDeepTwice answers true for every filter and all data. -/
import Derived.Test.YtbkodehcjhpcmaaL18
import Derived.Test.YtbkodehcjhpcmaaLawKit
namespace Go.Proofs.Ytbkodehcjhpcmaa.LTwice
open Go.RowKit Go.ChangeShapes Go.WideShapes Go.ChangeAt Go.Deep

theorem found_of {f f' : Nat → Nat} {h : Nat → Int} {m k : Nat} (hb : ∀ j, bit f' j = (bit f j || hit h m k j)) : found f' h m k = true := by
  simp only [found, List.all_eq_true]
  intro t ht
  rw [hb]
  have : hit h m k (place h m t) = true := by
    simp only [hit, List.any_eq_true]
    exact ⟨t, ht, by simp⟩
  rw [this, Bool.or_true]
theorem same_words {f f' : Nat → Nat} (hf : ∀ i, f i < 18446744073709551616) (hf' : ∀ i, f' i < 18446744073709551616) (h : ∀ j, bit f j = bit f' j) (i : Nat) : f i = f' i := by
  apply Nat.eq_of_testBit_eq
  intro j
  by_cases hj : j < 64
  · have := h (64 * i + j)
    unfold bit at this
    rwa [show (64 * i + j) / 64 = i by omega, show (64 * i + j) % 64 = j by omega] at this
  · have h64 : (18446744073709551616 : Nat) ≤ 2 ^ j := Nat.pow_le_pow_right (n := 2) (i := 64) (by decide) (by omega)
    rw [Nat.testBit_lt_two_pow (Nat.lt_of_lt_of_le (hf i) h64), Nat.testBit_lt_two_pow (Nat.lt_of_lt_of_le (hf' i) h64)]

set_option maxRecDepth 100000 in
set_option maxHeartbeats 8000000 in
theorem walkA {w : World} {so so3 : Option Addr} {n cp dn dc : Nat} {f0 : Nat → Nat} {s : Nat → UInt8} (hw : Raww w so n cp f0) (m kk : Nat) (hm : m < 65536) (hk : kk < 256) (hd : Data w so3 dn dc s) (hn : n ≤ 2147483647) (hdn : dn ≤ 2147483647) :
    Calls Try.prog 4 #[.int .u16 m, .int .u8 kk, .slice so n cp, .slice so3 dn dc] w fun e w' => e = .returned (.bool true) ∧ Below w.heap.size w w' := by
  have HBF := Lib.hid (blFilter_any hw m kk hm hk hn)
  have HD := Lib.hid hd
  obtain ⟨M, hM⟩ : ∃ M, M = m % 700 + 1 := ⟨_, rfl⟩
  obtain ⟨K, hK⟩ : ∃ K, K = kk % 8 + 1 := ⟨_, rfl⟩
  obtain ⟨N, hN⟩ : ∃ N, N = (m % 700 + 64) / 64 := ⟨_, rfl⟩
  have hM0 : 0 < M := by omega
  have hK8 : K ≤ 8 := by omega
  have hN0 : 0 < N := by omega
  have hN1 : N ≤ 1000 := by omega
  have hMN : M ≤ 64 * N := by omega
  rw [← hM, ← hK, ← hN] at HBF
  obtain ⟨dm, hdm⟩ : ∃ x, x = min dn 80 := ⟨_, rfl⟩
  have hd80 : dm ≤ 80 := by omega
  have HDM := Lib.hid hdm
  obtain ⟨h, hh⟩ : ∃ h, h = hashes s dm := ⟨_, rfl⟩
  have HH := Lib.hid hh
  have HP : Hid (0 < M ∧ K ≤ 8 ∧ 0 < N ∧ N ≤ 1000 ∧ M ≤ 64 * N ∧ dm ≤ 80) := ⟨hM0, hK8, hN0, hN1, hMN, hd80⟩
  clear hM hK hN hw hd hdm hh hMN
  go_enter Try.func4, Try.ntmps4
  go_wp2_with fail
  refine HBF.out.mono ?_
  rintro e w1 ⟨v0, g, rfl, hf0, hb⟩
  have H0a : Hid (Below w.heap.size w w1) := hb
  obtain ⟨sl0, rfl, ⟨x0, y0, z0, rfl, hwd0⟩, hs0⟩ := hf0
  have H0f : Hid (Fil w1 (.agg #[.int .u64 (M : Nat), .int .u64 (K : Nat), .slice (some ⟨x0, y0, none⟩) N z0]) M K N g) := ⟨_, rfl, ⟨x0, y0, z0, rfl, hwd0⟩, hs0⟩
  clear hb hwd0 hs0
  go_wp2_with fail
  refine (blData_any (HD.out.same H0a.out) hdn).mono ?_
  rintro e w1' ⟨rfl, rfl⟩
  rw [← HDM.out]
  obtain ⟨b0, hb0⟩ : ∃ b, b = w1.heap.size := ⟨_, rfl⟩
  have H1 : Hid (Fil (w1.alloc (.cells #[.int .u64 (M : Nat), .int .u64 (K : Nat), .slice (some ⟨x0, y0, none⟩) N z0] 27)) (.agg #[.int .u64 (M : Nat), .int .u64 (K : Nat), .slice (some ⟨x0, y0, none⟩) N z0]) M K N g ∧ Blk (w1.alloc (.cells #[.int .u64 (M : Nat), .int .u64 (K : Nat), .slice (some ⟨x0, y0, none⟩) N z0] 27)) b0 #[.int .u64 (M : Nat), .int .u64 (K : Nat), .slice (some ⟨x0, y0, none⟩) N z0] 27 ∧ Data (w1.alloc (.cells #[.int .u64 (M : Nat), .int .u64 (K : Nat), .slice (some ⟨x0, y0, none⟩) N z0] 27)) so3 dm dc s ∧ Below w.heap.size w (w1.alloc (.cells #[.int .u64 (M : Nat), .int .u64 (K : Nat), .slice (some ⟨x0, y0, none⟩) N z0] 27))) := by
    have hal : Below w1.heap.size w1 (w1.alloc (.cells #[.int .u64 (M : Nat), .int .u64 (K : Nat), .slice (some ⟨x0, y0, none⟩) N z0] 27)) := (Below.refl _ _).alloc (Nat.le_refl _) _
    have hbl := H0a.out.trans (hal.mono H0a.out.size)
    have hdt := (HD.out.same hbl).cut
    rw [← HDM.out] at hdt
    exact ⟨H0f.out.same hal, by rw [hb0]; exact Blk.new w1 _ _, hdt, hbl⟩
  go_wp2_with fail
  rw [← hb0]
  generalize (w1.alloc (.cells #[.int .u64 (M : Nat), .int .u64 (K : Nat), .slice (some ⟨x0, y0, none⟩) N z0] 27)) = W0 at H1 ⊢
  clear hb0
  refine (BLTestAndAdd_any H1.out.1 HP.out.2.2.1 HP.out.2.2.2.1 HP.out.2.1 HP.out.1 HP.out.2.2.2.2.1 H1.out.2.2.1 HP.out.2.2.2.2.2).mono ?_
  rw [← HH.out]
  rintro e wa1 ⟨⟨v1, rfl, hf1⟩, hb⟩
  obtain ⟨sl1, rfl, ⟨x1, y1, z1, rfl, hwd⟩, hsm⟩ := hf1
  have hfil : Fil wa1 (.agg #[.int .u64 (M : Nat), .int .u64 (K : Nat), .slice (some ⟨x1, y1, none⟩) N z1]) M K N (adds g h M K) := ⟨_, rfl, ⟨x1, y1, z1, rfl, hwd⟩, hsm⟩
  obtain ⟨b1, hb1⟩ : ∃ b, b = wa1.heap.size := ⟨_, rfl⟩
  have hal : Below wa1.heap.size wa1 (wa1.alloc (.cells #[.int .u64 (M : Nat), .int .u64 (K : Nat), .slice (some ⟨x1, y1, none⟩) N z1] 27)) := (Below.refl _ _).alloc (Nat.le_refl _) _
  have hbw : Below W0.heap.size W0 (wa1.alloc (.cells #[.int .u64 (M : Nat), .int .u64 (K : Nat), .slice (some ⟨x1, y1, none⟩) N z1] 27)) := hb.trans (hal.mono hb.size)
  have H2 : Hid (Fil (wa1.alloc (.cells #[.int .u64 (M : Nat), .int .u64 (K : Nat), .slice (some ⟨x1, y1, none⟩) N z1] 27)) (.agg #[.int .u64 (M : Nat), .int .u64 (K : Nat), .slice (some ⟨x0, y0, none⟩) N z0]) M K N g ∧ Blk (wa1.alloc (.cells #[.int .u64 (M : Nat), .int .u64 (K : Nat), .slice (some ⟨x1, y1, none⟩) N z1] 27)) b0 #[.int .u64 (M : Nat), .int .u64 (K : Nat), .slice (some ⟨x0, y0, none⟩) N z0] 27 ∧ Fil (wa1.alloc (.cells #[.int .u64 (M : Nat), .int .u64 (K : Nat), .slice (some ⟨x1, y1, none⟩) N z1] 27)) (.agg #[.int .u64 (M : Nat), .int .u64 (K : Nat), .slice (some ⟨x1, y1, none⟩) N z1]) M K N (adds g h M K) ∧ Blk (wa1.alloc (.cells #[.int .u64 (M : Nat), .int .u64 (K : Nat), .slice (some ⟨x1, y1, none⟩) N z1] 27)) b1 #[.int .u64 (M : Nat), .int .u64 (K : Nat), .slice (some ⟨x1, y1, none⟩) N z1] 27 ∧ Data (wa1.alloc (.cells #[.int .u64 (M : Nat), .int .u64 (K : Nat), .slice (some ⟨x1, y1, none⟩) N z1] 27)) so3 dm dc s ∧ Below w.heap.size w (wa1.alloc (.cells #[.int .u64 (M : Nat), .int .u64 (K : Nat), .slice (some ⟨x1, y1, none⟩) N z1] 27))) :=
    ⟨H1.out.1.same hbw, (hbw.block _ H1.out.2.1.lt).trans H1.out.2.1, hfil.same hal, by rw [hb1]; exact Blk.new wa1 _ _, H1.out.2.2.1.same hbw, H1.out.2.2.2.trans (hbw.mono H1.out.2.2.2.size)⟩
  have u0 : (wa1.alloc (.cells #[.int .u64 (M : Nat), .int .u64 (K : Nat), .slice (some ⟨x1, y1, none⟩) N z1] 27)).cell? ⟨b0, 0, none⟩ = some (.int .u64 (M : Nat)) := H2.out.2.1.cell rfl
  have u1 : (wa1.alloc (.cells #[.int .u64 (M : Nat), .int .u64 (K : Nat), .slice (some ⟨x1, y1, none⟩) N z1] 27)).cell? ⟨b0, 1, none⟩ = some (.int .u64 (K : Nat)) := H2.out.2.1.cell rfl
  have u2 : (wa1.alloc (.cells #[.int .u64 (M : Nat), .int .u64 (K : Nat), .slice (some ⟨x1, y1, none⟩) N z1] 27)).cell? ⟨b0, 2, none⟩ = some (.slice (some ⟨x0, y0, none⟩) N z0) := H2.out.2.1.cell rfl
  clear hfil hal hbw hb hwd hsm
  go_wp2_with fail
  clear u0 u1 u2
  try rw [← hb1]
  generalize (wa1.alloc (.cells #[.int .u64 (M : Nat), .int .u64 (K : Nat), .slice (some ⟨x1, y1, none⟩) N z1] 27)) = W1 at H2 ⊢
  clear hb1
  refine (BLTestOrAdd_any H2.out.1 HP.out.2.2.1 HP.out.2.2.2.1 HP.out.2.1 HP.out.1 HP.out.2.2.2.2.1 H2.out.2.2.2.2.1 HP.out.2.2.2.2.2).mono ?_
  rw [← HH.out]
  rintro e wa2 ⟨⟨v2, rfl, hf2⟩, hb⟩
  obtain ⟨sl2, rfl, ⟨x2, y2, z2, rfl, hwd⟩, hsm⟩ := hf2
  have hfil : Fil wa2 (.agg #[.int .u64 (M : Nat), .int .u64 (K : Nat), .slice (some ⟨x2, y2, none⟩) N z2]) M K N (orAdds g h M K) := ⟨_, rfl, ⟨x2, y2, z2, rfl, hwd⟩, hsm⟩
  obtain ⟨b2, hb2⟩ : ∃ b, b = wa2.heap.size := ⟨_, rfl⟩
  have hal : Below wa2.heap.size wa2 (wa2.alloc (.cells #[.int .u64 (M : Nat), .int .u64 (K : Nat), .slice (some ⟨x2, y2, none⟩) N z2] 27)) := (Below.refl _ _).alloc (Nat.le_refl _) _
  have hbw : Below W1.heap.size W1 (wa2.alloc (.cells #[.int .u64 (M : Nat), .int .u64 (K : Nat), .slice (some ⟨x2, y2, none⟩) N z2] 27)) := hb.trans (hal.mono hb.size)
  have H3 : Hid (Fil (wa2.alloc (.cells #[.int .u64 (M : Nat), .int .u64 (K : Nat), .slice (some ⟨x2, y2, none⟩) N z2] 27)) (.agg #[.int .u64 (M : Nat), .int .u64 (K : Nat), .slice (some ⟨x0, y0, none⟩) N z0]) M K N g ∧ Blk (wa2.alloc (.cells #[.int .u64 (M : Nat), .int .u64 (K : Nat), .slice (some ⟨x2, y2, none⟩) N z2] 27)) b0 #[.int .u64 (M : Nat), .int .u64 (K : Nat), .slice (some ⟨x0, y0, none⟩) N z0] 27 ∧ Fil (wa2.alloc (.cells #[.int .u64 (M : Nat), .int .u64 (K : Nat), .slice (some ⟨x2, y2, none⟩) N z2] 27)) (.agg #[.int .u64 (M : Nat), .int .u64 (K : Nat), .slice (some ⟨x1, y1, none⟩) N z1]) M K N (adds g h M K) ∧ Blk (wa2.alloc (.cells #[.int .u64 (M : Nat), .int .u64 (K : Nat), .slice (some ⟨x2, y2, none⟩) N z2] 27)) b1 #[.int .u64 (M : Nat), .int .u64 (K : Nat), .slice (some ⟨x1, y1, none⟩) N z1] 27 ∧ Fil (wa2.alloc (.cells #[.int .u64 (M : Nat), .int .u64 (K : Nat), .slice (some ⟨x2, y2, none⟩) N z2] 27)) (.agg #[.int .u64 (M : Nat), .int .u64 (K : Nat), .slice (some ⟨x2, y2, none⟩) N z2]) M K N (orAdds g h M K) ∧ Blk (wa2.alloc (.cells #[.int .u64 (M : Nat), .int .u64 (K : Nat), .slice (some ⟨x2, y2, none⟩) N z2] 27)) b2 #[.int .u64 (M : Nat), .int .u64 (K : Nat), .slice (some ⟨x2, y2, none⟩) N z2] 27 ∧ Data (wa2.alloc (.cells #[.int .u64 (M : Nat), .int .u64 (K : Nat), .slice (some ⟨x2, y2, none⟩) N z2] 27)) so3 dm dc s ∧ Below w.heap.size w (wa2.alloc (.cells #[.int .u64 (M : Nat), .int .u64 (K : Nat), .slice (some ⟨x2, y2, none⟩) N z2] 27))) :=
    ⟨H2.out.1.same hbw, (hbw.block _ H2.out.2.1.lt).trans H2.out.2.1, H2.out.2.2.1.same hbw, (hbw.block _ H2.out.2.2.2.1.lt).trans H2.out.2.2.2.1, hfil.same hal, by rw [hb2]; exact Blk.new wa2 _ _, H2.out.2.2.2.2.1.same hbw, H2.out.2.2.2.2.2.trans (hbw.mono H2.out.2.2.2.2.2.size)⟩
  have u0 : (wa2.alloc (.cells #[.int .u64 (M : Nat), .int .u64 (K : Nat), .slice (some ⟨x2, y2, none⟩) N z2] 27)).cell? ⟨b1, 0, none⟩ = some (.int .u64 (M : Nat)) := H3.out.2.2.2.1.cell rfl
  have u1 : (wa2.alloc (.cells #[.int .u64 (M : Nat), .int .u64 (K : Nat), .slice (some ⟨x2, y2, none⟩) N z2] 27)).cell? ⟨b1, 1, none⟩ = some (.int .u64 (K : Nat)) := H3.out.2.2.2.1.cell rfl
  have u2 : (wa2.alloc (.cells #[.int .u64 (M : Nat), .int .u64 (K : Nat), .slice (some ⟨x2, y2, none⟩) N z2] 27)).cell? ⟨b1, 2, none⟩ = some (.slice (some ⟨x1, y1, none⟩) N z1) := H3.out.2.2.2.1.cell rfl
  clear hfil hal hbw hb hwd hsm
  go_wp2_with fail
  clear u0 u1 u2
  try rw [← hb2]
  generalize (wa2.alloc (.cells #[.int .u64 (M : Nat), .int .u64 (K : Nat), .slice (some ⟨x2, y2, none⟩) N z2] 27)) = W2 at H3 ⊢
  clear hb2
  refine (BLTestAndAdd_any H3.out.2.2.1 HP.out.2.2.1 HP.out.2.2.2.1 HP.out.2.1 HP.out.1 HP.out.2.2.2.2.1 H3.out.2.2.2.2.2.2.1 HP.out.2.2.2.2.2).mono ?_
  rw [← HH.out]
  rintro e wa3 ⟨⟨v3, rfl, hf3⟩, hb⟩
  obtain ⟨sl3, rfl, ⟨x3, y3, z3, rfl, hwd⟩, hsm⟩ := hf3
  have hfil : Fil wa3 (.agg #[.int .u64 (M : Nat), .int .u64 (K : Nat), .slice (some ⟨x3, y3, none⟩) N z3]) M K N (adds (adds g h M K) h M K) := ⟨_, rfl, ⟨x3, y3, z3, rfl, hwd⟩, hsm⟩
  obtain ⟨b3, hb3⟩ : ∃ b, b = wa3.heap.size := ⟨_, rfl⟩
  have hal : Below wa3.heap.size wa3 (wa3.alloc (.cells #[.int .u64 (M : Nat), .int .u64 (K : Nat), .slice (some ⟨x3, y3, none⟩) N z3] 27)) := (Below.refl _ _).alloc (Nat.le_refl _) _
  have hbw : Below W2.heap.size W2 (wa3.alloc (.cells #[.int .u64 (M : Nat), .int .u64 (K : Nat), .slice (some ⟨x3, y3, none⟩) N z3] 27)) := hb.trans (hal.mono hb.size)
  have H4 : Hid (Fil (wa3.alloc (.cells #[.int .u64 (M : Nat), .int .u64 (K : Nat), .slice (some ⟨x3, y3, none⟩) N z3] 27)) (.agg #[.int .u64 (M : Nat), .int .u64 (K : Nat), .slice (some ⟨x0, y0, none⟩) N z0]) M K N g ∧ Blk (wa3.alloc (.cells #[.int .u64 (M : Nat), .int .u64 (K : Nat), .slice (some ⟨x3, y3, none⟩) N z3] 27)) b0 #[.int .u64 (M : Nat), .int .u64 (K : Nat), .slice (some ⟨x0, y0, none⟩) N z0] 27 ∧ Fil (wa3.alloc (.cells #[.int .u64 (M : Nat), .int .u64 (K : Nat), .slice (some ⟨x3, y3, none⟩) N z3] 27)) (.agg #[.int .u64 (M : Nat), .int .u64 (K : Nat), .slice (some ⟨x1, y1, none⟩) N z1]) M K N (adds g h M K) ∧ Blk (wa3.alloc (.cells #[.int .u64 (M : Nat), .int .u64 (K : Nat), .slice (some ⟨x3, y3, none⟩) N z3] 27)) b1 #[.int .u64 (M : Nat), .int .u64 (K : Nat), .slice (some ⟨x1, y1, none⟩) N z1] 27 ∧ Fil (wa3.alloc (.cells #[.int .u64 (M : Nat), .int .u64 (K : Nat), .slice (some ⟨x3, y3, none⟩) N z3] 27)) (.agg #[.int .u64 (M : Nat), .int .u64 (K : Nat), .slice (some ⟨x2, y2, none⟩) N z2]) M K N (orAdds g h M K) ∧ Blk (wa3.alloc (.cells #[.int .u64 (M : Nat), .int .u64 (K : Nat), .slice (some ⟨x3, y3, none⟩) N z3] 27)) b2 #[.int .u64 (M : Nat), .int .u64 (K : Nat), .slice (some ⟨x2, y2, none⟩) N z2] 27 ∧ Fil (wa3.alloc (.cells #[.int .u64 (M : Nat), .int .u64 (K : Nat), .slice (some ⟨x3, y3, none⟩) N z3] 27)) (.agg #[.int .u64 (M : Nat), .int .u64 (K : Nat), .slice (some ⟨x3, y3, none⟩) N z3]) M K N (adds (adds g h M K) h M K) ∧ Blk (wa3.alloc (.cells #[.int .u64 (M : Nat), .int .u64 (K : Nat), .slice (some ⟨x3, y3, none⟩) N z3] 27)) b3 #[.int .u64 (M : Nat), .int .u64 (K : Nat), .slice (some ⟨x3, y3, none⟩) N z3] 27 ∧ Data (wa3.alloc (.cells #[.int .u64 (M : Nat), .int .u64 (K : Nat), .slice (some ⟨x3, y3, none⟩) N z3] 27)) so3 dm dc s ∧ Below w.heap.size w (wa3.alloc (.cells #[.int .u64 (M : Nat), .int .u64 (K : Nat), .slice (some ⟨x3, y3, none⟩) N z3] 27))) :=
    ⟨H3.out.1.same hbw, (hbw.block _ H3.out.2.1.lt).trans H3.out.2.1, H3.out.2.2.1.same hbw, (hbw.block _ H3.out.2.2.2.1.lt).trans H3.out.2.2.2.1, H3.out.2.2.2.2.1.same hbw, (hbw.block _ H3.out.2.2.2.2.2.1.lt).trans H3.out.2.2.2.2.2.1, hfil.same hal, by rw [hb3]; exact Blk.new wa3 _ _, H3.out.2.2.2.2.2.2.1.same hbw, H3.out.2.2.2.2.2.2.2.trans (hbw.mono H3.out.2.2.2.2.2.2.2.size)⟩
  have u0 : (wa3.alloc (.cells #[.int .u64 (M : Nat), .int .u64 (K : Nat), .slice (some ⟨x3, y3, none⟩) N z3] 27)).cell? ⟨b2, 0, none⟩ = some (.int .u64 (M : Nat)) := H4.out.2.2.2.2.2.1.cell rfl
  have u1 : (wa3.alloc (.cells #[.int .u64 (M : Nat), .int .u64 (K : Nat), .slice (some ⟨x3, y3, none⟩) N z3] 27)).cell? ⟨b2, 1, none⟩ = some (.int .u64 (K : Nat)) := H4.out.2.2.2.2.2.1.cell rfl
  have u2 : (wa3.alloc (.cells #[.int .u64 (M : Nat), .int .u64 (K : Nat), .slice (some ⟨x3, y3, none⟩) N z3] 27)).cell? ⟨b2, 2, none⟩ = some (.slice (some ⟨x2, y2, none⟩) N z2) := H4.out.2.2.2.2.2.1.cell rfl
  clear hfil hal hbw hb hwd hsm
  go_wp2_with fail
  clear u0 u1 u2
  try rw [← hb3]
  generalize (wa3.alloc (.cells #[.int .u64 (M : Nat), .int .u64 (K : Nat), .slice (some ⟨x3, y3, none⟩) N z3] 27)) = W3 at H4 ⊢
  clear hb3
  refine (BLTestOrAdd_any H4.out.2.2.2.2.1 HP.out.2.2.1 HP.out.2.2.2.1 HP.out.2.1 HP.out.1 HP.out.2.2.2.2.1 H4.out.2.2.2.2.2.2.2.2.1 HP.out.2.2.2.2.2).mono ?_
  rw [← HH.out]
  rintro e wa4 ⟨⟨v4, rfl, hf4⟩, hb⟩
  obtain ⟨sl4, rfl, ⟨x4, y4, z4, rfl, hwd⟩, hsm⟩ := hf4
  have hfil : Fil wa4 (.agg #[.int .u64 (M : Nat), .int .u64 (K : Nat), .slice (some ⟨x4, y4, none⟩) N z4]) M K N (orAdds (orAdds g h M K) h M K) := ⟨_, rfl, ⟨x4, y4, z4, rfl, hwd⟩, hsm⟩
  obtain ⟨b4, hb4⟩ : ∃ b, b = wa4.heap.size := ⟨_, rfl⟩
  have hal : Below wa4.heap.size wa4 (wa4.alloc (.cells #[.int .u64 (M : Nat), .int .u64 (K : Nat), .slice (some ⟨x4, y4, none⟩) N z4] 27)) := (Below.refl _ _).alloc (Nat.le_refl _) _
  have hbw : Below W3.heap.size W3 (wa4.alloc (.cells #[.int .u64 (M : Nat), .int .u64 (K : Nat), .slice (some ⟨x4, y4, none⟩) N z4] 27)) := hb.trans (hal.mono hb.size)
  have H5 : Hid (Fil (wa4.alloc (.cells #[.int .u64 (M : Nat), .int .u64 (K : Nat), .slice (some ⟨x4, y4, none⟩) N z4] 27)) (.agg #[.int .u64 (M : Nat), .int .u64 (K : Nat), .slice (some ⟨x0, y0, none⟩) N z0]) M K N g ∧ Blk (wa4.alloc (.cells #[.int .u64 (M : Nat), .int .u64 (K : Nat), .slice (some ⟨x4, y4, none⟩) N z4] 27)) b0 #[.int .u64 (M : Nat), .int .u64 (K : Nat), .slice (some ⟨x0, y0, none⟩) N z0] 27 ∧ Fil (wa4.alloc (.cells #[.int .u64 (M : Nat), .int .u64 (K : Nat), .slice (some ⟨x4, y4, none⟩) N z4] 27)) (.agg #[.int .u64 (M : Nat), .int .u64 (K : Nat), .slice (some ⟨x1, y1, none⟩) N z1]) M K N (adds g h M K) ∧ Blk (wa4.alloc (.cells #[.int .u64 (M : Nat), .int .u64 (K : Nat), .slice (some ⟨x4, y4, none⟩) N z4] 27)) b1 #[.int .u64 (M : Nat), .int .u64 (K : Nat), .slice (some ⟨x1, y1, none⟩) N z1] 27 ∧ Fil (wa4.alloc (.cells #[.int .u64 (M : Nat), .int .u64 (K : Nat), .slice (some ⟨x4, y4, none⟩) N z4] 27)) (.agg #[.int .u64 (M : Nat), .int .u64 (K : Nat), .slice (some ⟨x2, y2, none⟩) N z2]) M K N (orAdds g h M K) ∧ Blk (wa4.alloc (.cells #[.int .u64 (M : Nat), .int .u64 (K : Nat), .slice (some ⟨x4, y4, none⟩) N z4] 27)) b2 #[.int .u64 (M : Nat), .int .u64 (K : Nat), .slice (some ⟨x2, y2, none⟩) N z2] 27 ∧ Fil (wa4.alloc (.cells #[.int .u64 (M : Nat), .int .u64 (K : Nat), .slice (some ⟨x4, y4, none⟩) N z4] 27)) (.agg #[.int .u64 (M : Nat), .int .u64 (K : Nat), .slice (some ⟨x3, y3, none⟩) N z3]) M K N (adds (adds g h M K) h M K) ∧ Blk (wa4.alloc (.cells #[.int .u64 (M : Nat), .int .u64 (K : Nat), .slice (some ⟨x4, y4, none⟩) N z4] 27)) b3 #[.int .u64 (M : Nat), .int .u64 (K : Nat), .slice (some ⟨x3, y3, none⟩) N z3] 27 ∧ Fil (wa4.alloc (.cells #[.int .u64 (M : Nat), .int .u64 (K : Nat), .slice (some ⟨x4, y4, none⟩) N z4] 27)) (.agg #[.int .u64 (M : Nat), .int .u64 (K : Nat), .slice (some ⟨x4, y4, none⟩) N z4]) M K N (orAdds (orAdds g h M K) h M K) ∧ Blk (wa4.alloc (.cells #[.int .u64 (M : Nat), .int .u64 (K : Nat), .slice (some ⟨x4, y4, none⟩) N z4] 27)) b4 #[.int .u64 (M : Nat), .int .u64 (K : Nat), .slice (some ⟨x4, y4, none⟩) N z4] 27 ∧ Data (wa4.alloc (.cells #[.int .u64 (M : Nat), .int .u64 (K : Nat), .slice (some ⟨x4, y4, none⟩) N z4] 27)) so3 dm dc s ∧ Below w.heap.size w (wa4.alloc (.cells #[.int .u64 (M : Nat), .int .u64 (K : Nat), .slice (some ⟨x4, y4, none⟩) N z4] 27))) :=
    ⟨H4.out.1.same hbw, (hbw.block _ H4.out.2.1.lt).trans H4.out.2.1, H4.out.2.2.1.same hbw, (hbw.block _ H4.out.2.2.2.1.lt).trans H4.out.2.2.2.1, H4.out.2.2.2.2.1.same hbw, (hbw.block _ H4.out.2.2.2.2.2.1.lt).trans H4.out.2.2.2.2.2.1, H4.out.2.2.2.2.2.2.1.same hbw, (hbw.block _ H4.out.2.2.2.2.2.2.2.1.lt).trans H4.out.2.2.2.2.2.2.2.1, hfil.same hal, by rw [hb4]; exact Blk.new wa4 _ _, H4.out.2.2.2.2.2.2.2.2.1.same hbw, H4.out.2.2.2.2.2.2.2.2.2.trans (hbw.mono H4.out.2.2.2.2.2.2.2.2.2.size)⟩
  clear hfil hal hbw hb hwd hsm
  go_wp2_with fail
  try rw [← hb4]
  generalize (wa4.alloc (.cells #[.int .u64 (M : Nat), .int .u64 (K : Nat), .slice (some ⟨x4, y4, none⟩) N z4] 27)) = W4 at H5 ⊢
  clear hb4
  have hc : ∀ X, Below W4.heap.size W4 X → X.cell? ⟨b0, 0, none⟩ = some (.int .u64 (M : Nat)) ∧ X.cell? ⟨b0, 1, none⟩ = some (.int .u64 (K : Nat)) ∧ X.cell? ⟨b0, 2, none⟩ = some (.slice (some ⟨x0, y0, none⟩) N z0) ∧ X.cell? ⟨b1, 0, none⟩ = some (.int .u64 (M : Nat)) ∧ X.cell? ⟨b1, 1, none⟩ = some (.int .u64 (K : Nat)) ∧ X.cell? ⟨b1, 2, none⟩ = some (.slice (some ⟨x1, y1, none⟩) N z1) ∧ X.cell? ⟨b2, 0, none⟩ = some (.int .u64 (M : Nat)) ∧ X.cell? ⟨b2, 1, none⟩ = some (.int .u64 (K : Nat)) ∧ X.cell? ⟨b2, 2, none⟩ = some (.slice (some ⟨x2, y2, none⟩) N z2) := fun X hX => by
    have h0 : Blk X _ _ _ := (hX.block _ H5.out.2.1.lt).trans H5.out.2.1
    have h1 : Blk X _ _ _ := (hX.block _ H5.out.2.2.2.1.lt).trans H5.out.2.2.2.1
    have h2 : Blk X _ _ _ := (hX.block _ H5.out.2.2.2.2.2.1.lt).trans H5.out.2.2.2.2.2.1
    exact ⟨h0.cell rfl, h0.cell rfl, h0.cell rfl, h1.cell rfl, h1.cell rfl, h1.cell rfl, h2.cell rfl, h2.cell rfl, h2.cell rfl⟩
  have HC := Lib.hid hc
  have hT : ∀ X, Below W4.heap.size W4 X → Calls Try.prog 10 #[.agg #[.int .u64 (M : Nat), .int .u64 (K : Nat), .slice (some ⟨x0, y0, none⟩) N z0], .slice so3 dm dc] X fun e w' => e = .returned (.bool (found g h M K)) ∧ Below X.heap.size X w' := fun X hX => by
    have := BLTest_any (H5.out.1.same hX) HP.out.2.2.1 HP.out.2.2.2.1 HP.out.2.1 HP.out.1 HP.out.2.2.2.2.1 (H5.out.2.2.2.2.2.2.2.2.2.2.1.same hX) HP.out.2.2.2.2.2
    rw [← HH.out] at this; exact this
  have hA : ∀ X, Below W4.heap.size W4 X → Calls Try.prog 15 #[.agg #[.int .u64 (M : Nat), .int .u64 (K : Nat), .slice (some ⟨x0, y0, none⟩) N z0], .slice so3 dm dc] X fun e w' => (∃ x5 y5 z5, e = .returned (.agg #[.int .u64 (M : Nat), .int .u64 (K : Nat), .slice (some ⟨x5, y5, none⟩) N z5]) ∧ Fil w' (.agg #[.int .u64 (M : Nat), .int .u64 (K : Nat), .slice (some ⟨x5, y5, none⟩) N z5]) M K N (adds g h M K)) ∧ Below X.heap.size X w' := fun X hX => by
    have := BLAdd_any (H5.out.1.same hX) HP.out.2.2.1 HP.out.2.2.2.1 HP.out.2.1 HP.out.1 HP.out.2.2.2.2.1 (H5.out.2.2.2.2.2.2.2.2.2.2.1.same hX) HP.out.2.2.2.2.2
    rw [← HH.out] at this
    refine this.mono ?_
    rintro e w' ⟨⟨v, rfl, hf⟩, hb⟩
    obtain ⟨sl, rfl, ⟨x5, y5, z5, rfl, hwd⟩, hsm⟩ := hf
    exact ⟨⟨x5, y5, z5, rfl, ⟨_, rfl, ⟨x5, y5, z5, rfl, hwd⟩, hsm⟩⟩, hb⟩
  have hE : ∀ X (x5 y5 z5 : Nat), Below W4.heap.size W4 X → Fil X (.agg #[.int .u64 (M : Nat), .int .u64 (K : Nat), .slice (some ⟨x5, y5, none⟩) N z5]) M K N (adds g h M K) → Calls Try.prog 9 #[.agg #[.int .u64 (M : Nat), .int .u64 (K : Nat), .slice (some ⟨x1, y1, none⟩) N z1], .agg #[.int .u64 (M : Nat), .int .u64 (K : Nat), .slice (some ⟨x5, y5, none⟩) N z5]] X fun e w' => e = .returned (.bool true) ∧ Below X.heap.size X w' := fun X x5 y5 z5 hX hf => BLEqual_any (H5.out.2.2.1.same hX) hf (fun _ _ => rfl) HP.out.2.2.1 HP.out.2.2.2.1
  have hE2 : ∀ X, Below W4.heap.size W4 X → Calls Try.prog 9 #[.agg #[.int .u64 (M : Nat), .int .u64 (K : Nat), .slice (some ⟨x2, y2, none⟩) N z2], .agg #[.int .u64 (M : Nat), .int .u64 (K : Nat), .slice (some ⟨x1, y1, none⟩) N z1]] X fun e w' => e = .returned (.bool true) ∧ Below X.heap.size X w' := fun X hX => by
    obtain ⟨_, _, _, sm1⟩ := H5.out.2.2.1
    obtain ⟨_, _, _, sm2⟩ := H5.out.2.2.2.2.1
    exact BLEqual_any (H5.out.2.2.2.2.1.same hX) (H5.out.2.2.1.same hX) (fun i _ => same_words sm2 sm1 (fun j => by rw [adds_bit, orAdds_bit]) i) HP.out.2.2.1 HP.out.2.2.2.1
  have t3 : found (adds g h M K) h M K = true := found_of (f := g) (adds_bit g h M K)
  have t4 : found (orAdds g h M K) h M K = true := found_of (f := g) (orAdds_bit g h M K)
  rw [t3, t4]
  obtain ⟨fo, hfo⟩ : ∃ x, x = found g h M K := ⟨_, rfl⟩
  rw [← hfo] at hT ⊢
  have HT := Lib.hid hT
  have HA := Lib.hid hA
  have HE := Lib.hid hE
  have HE2 := Lib.hid hE2
  have q2 : (fo == fo) = true := beq_self_eq_true _
  obtain ⟨u0, u1, u2, u3, u4, u5, u6, u7, u8⟩ := hc W4 (Below.refl _ _)
  clear hT hA hE hE2 hfo hc t3 t4
  go_region_held3 (fun w' => w'.cell? ⟨b0, 0, none⟩ = some (.int .u64 (M : Nat)) ∧ w'.cell? ⟨b0, 1, none⟩ = some (.int .u64 (K : Nat)) ∧ w'.cell? ⟨b0, 2, none⟩ = some (.slice (some ⟨x0, y0, none⟩) N z0) ∧ w'.cell? ⟨b1, 0, none⟩ = some (.int .u64 (M : Nat)) ∧ w'.cell? ⟨b1, 1, none⟩ = some (.int .u64 (K : Nat)) ∧ w'.cell? ⟨b1, 2, none⟩ = some (.slice (some ⟨x1, y1, none⟩) N z1) ∧ w'.cell? ⟨b2, 0, none⟩ = some (.int .u64 (M : Nat)) ∧ w'.cell? ⟨b2, 1, none⟩ = some (.int .u64 (K : Nat)) ∧ w'.cell? ⟨b2, 2, none⟩ = some (.slice (some ⟨x2, y2, none⟩) N z2))
    (first | exact ⟨u0, u1, u2, u3, u4, u5, u6, u7, u8⟩ | exact HC.out _ G4.out | exact HC.out _ G3.out | exact HC.out _ G2.out.1 | exact HC.out _ G1.out)
    (first
      | (have := G3; go_at_call 9; refine (HE2.out _ G3.out).mono ?_; rintro e c4 ⟨rfl, hb⟩; have G4 : Hid (Below W4.heap.size W4 c4) := Lib.hid (G3.out.trans (hb.mono G3.out.size)); clear hb)
      | (have := G2; go_at_call 9; refine (HE.out _ x5 y5 z5 G2.out.1 G2.out.2).mono ?_; rintro e c3 ⟨rfl, hb⟩; have G3 : Hid (Below W4.heap.size W4 c3) := Lib.hid (G2.out.1.trans (hb.mono G2.out.1.size)); clear hb)
      | (have := G1; go_at_call 15; refine (HA.out _ G1.out).mono ?_; rintro e c2 ⟨⟨x5, y5, z5, rfl, hf⟩, hb⟩; have G2 : Hid (Below W4.heap.size W4 c2 ∧ Fil c2 (.agg #[.int .u64 (M : Nat), .int .u64 (K : Nat), .slice (some ⟨x5, y5, none⟩) N z5]) M K N (adds g h M K)) := ⟨G1.out.trans (hb.mono G1.out.size), hf⟩; clear hb hf)
      | (go_at_call 10; refine (HT.out _ (Below.refl _ _).drew).mono ?_; rintro e c1 ⟨rfl, hb⟩; have G1 : Hid (Below W4.heap.size W4 c1) := Lib.hid ((Below.refl _ _).drew.trans hb); clear hb))
  go_wp2_with fail
  go_ret
  exact ⟨rfl, H5.out.2.2.2.2.2.2.2.2.2.2.2.trans (G4.out.mono H5.out.2.2.2.2.2.2.2.2.2.2.2.size)⟩
set_option maxRecDepth 100000 in
theorem walk {w : World} {so so3 : Option Addr} {n cp dn dc : Nat} {f0 : Nat → Nat} {s : Nat → UInt8} (hw : Raww w so n cp f0) (m kk : Nat) (hm : m < 65536) (hk : kk < 256) (hd : Data w so3 dn dc s) :
    Calls Try.prog 4 #[.int .u16 m, .int .u8 kk, .slice so n cp, .slice so3 dn dc] w fun e w' => e = .returned (.bool true) ∧ Below w.heap.size w w' := by
  by_cases hn : n ≤ 2147483647
  · by_cases hdn : dn ≤ 2147483647
    · exact walkA hw m kk hm hk hd hn hdn
    · clear hw hd
      go_enter Try.func4, Try.ntmps4
      go_wp2_with fail
      go_ret
      exact ⟨rfl, Below.refl _ _⟩
  · clear hw hd
    go_enter Try.func4, Try.ntmps4
    go_wp2_with fail
    go_ret
    exact ⟨rfl, Below.refl _ _⟩

theorem own : ownKnob Try.prog.godebug = none := by kernel_rfl
theorem laidOut : laidOutB Try.prog = true := by kernel_rfl

set_option maxRecDepth 100000 in
theorem lifted (os : Os) (started : os.Started) (H : Type) (enc : TypeId × Value → H) :
    ReturnsInHanded {} Try.checked os 4 .any (Rows.fnBLDeepTwiceSpec.pre6 enc Try.prog Try.f4 Rows.fnBLDeepTwiceRow.domain false) (Rows.fnBLDeepTwiceSpec.post enc Try.prog Try.f4 false true false false) := by
  refine LawKit.lifted (C := Try.checked) (T := 4) own started (by kernel_rfl) Try.func4 laidOut (by kernel_rfl) (by kernel_rfl) Try.underlying4 rfl ?_
    (ChangeSpec.witness6 (enc := enc) (C := Try.checked) false ⟨#[], #[.int .u16 0, .int .u8 0, .slice none 0 0, .slice none 0 0], []⟩ 8 (by kernel_rfl) (by kernel_rfl) (by kernel_rfl) (by kernel_rfl)) ?_
  · intro ds hd
    match ds, hd with
    | [_, _, _, _], _ => rfl
  · intro W base args ds p hval0 hA0 _
    have hval : ∀ (j : Nat) t v, Try.f4.params[j]? = some t → args[j]? = some v → Value.okWide Try.prog W .any base t v := hval0
    have hA : DataW.TrodAll enc Try.prog W 0 (fun _ => true) true Try.f4.params.toList args.toList ds p := hA0
    rw [Try.params4] at hA hval
    obtain ⟨v0, vs0, d0, ds0, p0, q0, hargs, rfl, rfl, h0, r0⟩ := trodAll_cons hA
    obtain ⟨v1, vs1, d1, ds1, p1, q1, rfl, rfl, rfl, h1, r1⟩ := trodAll_cons r0
    obtain ⟨v2, vs2, d2, ds2, p2, q2, rfl, rfl, rfl, h2, r2⟩ := trodAll_cons r1
    obtain ⟨v3, vs3, d3, ds3, p3, q3, rfl, rfl, rfl, h3, r3⟩ := trodAll_cons r2
    obtain ⟨rfl, rfl, rfl⟩ := trodAll_nil r3
    obtain rfl : args = #[v0, v1, v2, v3] := by cases args; simp_all
    obtain ⟨a0, rfl, rfl, rfl, w0⟩ := open_int Try.underlying34 (hval 0 34 v0 rfl rfl) h0
    have b0 := bounds_u16 w0
    obtain ⟨i0, rfl⟩ : ∃ i : Nat, a0 = (i : Int) := ⟨a0.toNat, by omega⟩
    obtain ⟨a1, rfl, rfl, rfl, w1⟩ := open_int Try.underlying5 (hval 1 5 v1 rfl rfl) h1
    have b1 := bounds_u8 w1
    obtain ⟨i1, rfl⟩ : ∃ i : Nat, a1 = (i : Int) := ⟨a1.toNat, by omega⟩
    obtain ⟨so2, n2, cp2, rfl⟩ := okWide_slice Try.underlying22 (hval 2 22 v2 rfl rfl)
    obtain ⟨fu2, hf2⟩ := h2
    obtain ⟨so2', n2', cp2', f2, hv2, hr2⟩ := open_raww hf2
    simp only [Value.slice.injEq] at hv2
    obtain ⟨rfl, rfl, rfl⟩ := hv2
    obtain ⟨so3, n3, cp3, rfl⟩ := okWide_slice Try.underlying23 (hval 3 23 v3 rfl rfl)
    obtain ⟨fu3, hf3⟩ := h3
    obtain ⟨so3', n3', cp3', s3, hv3, hr3⟩ := open_data hf3
    simp only [Value.slice.injEq] at hv3
    obtain ⟨rfl, rfl, rfl⟩ := hv3
    exact walk hr2 i0 i1 (by omega) (by omega) hr3

theorem proved : Rows.FnBLDeepTwiceSaid :=
  OpenClaim.holds_of_wide 4 Try.f4 rfl rfl rfl rfl rfl rfl rfl ⟨rfl, rfl, rfl, rfl, rfl⟩ rfl rfl rfl rfl rfl (by kernel_rfl) Try.func4 (by kernel_rfl)
    (of_decide_eq_true (by kernel_rfl)) (by unfold Func.isWrapper; first | (rw [if_pos (by decide +kernel)]; kernel_rfl) | (rw [if_neg (by decide +kernel)]; exact ⟨rfl, rfl⟩))
    (fun os started H enc _ => lifted os started H enc)
#print axioms proved
end Go.Proofs.Ytbkodehcjhpcmaa.LTwice
