/- FnBLDeepMerge answers true for every two filters and all data. -/
import Derived.Test.YtbkodehcjhpcmaaL18
import Derived.Test.YtbkodehcjhpcmaaLawKit
import Derived.Deep.DeepCutAuto
import Derived.Deep.CutRange
namespace Go.Proofs.Ytbkodehcjhpcmaa.LMerge
open Go.RowKit Go.ChangeShapes Go.WideShapes Go.ChangeAt Go.Deep

theorem same_words {n : Nat} {f f' : Nat → Nat} (hf : ∀ i, f i < 18446744073709551616) (hf' : ∀ i, f' i < 18446744073709551616) (h : ∀ j, j < 64 * n → bit f j = bit f' j) (i : Nat) (hi : i < n) : f i = f' i := by
  apply Nat.eq_of_testBit_eq
  intro j
  by_cases hj : j < 64
  · have := h (64 * i + j) (by omega)
    unfold bit at this
    rwa [show (64 * i + j) / 64 = i by omega, show (64 * i + j) % 64 = j by omega] at this
  · have h64 : (18446744073709551616 : Nat) ≤ 2 ^ j := Nat.pow_le_pow_right (n := 2) (i := 64) (by decide) (by omega)
    rw [Nat.testBit_lt_two_pow (Nat.lt_of_lt_of_le (hf i) h64), Nat.testBit_lt_two_pow (Nat.lt_of_lt_of_le (hf' i) h64)]
theorem fil_set {w : World} {a b : Value} {x y z m k n r j : Nat} {f : Nat → Nat} (h : Fil w (.agg #[a, b, .slice (some ⟨x, y, none⟩) n z]) m k n f) (hx : x ≠ r) (v : Value) : Fil (w.setCell ⟨r, j, none⟩ v) (.agg #[a, b, .slice (some ⟨x, y, none⟩) n z]) m k n f := by
  obtain ⟨sl, h1, ⟨x', y', z', h2, h3, h4⟩, h5⟩ := h
  simp at h1
  obtain ⟨rfl, rfl, rfl⟩ := h1
  simp at h2
  obtain ⟨⟨rfl, rfl⟩, rfl⟩ := h2
  exact ⟨_, rfl, ⟨x, y, z, rfl, h3, fun i hi => (World.cell?_of_block (Below.heap_setCell _ _ _ _ hx)).trans (h4 i hi)⟩, h5⟩
theorem found_merged {f g : Nat → Nat} {h : Nat → Int} {m k n : Nat} (hm : 0 < m) (hmn : m ≤ 64 * n) : found (ors n (adds f h m k) g) h m k = true := by
  simp only [found, List.all_eq_true]
  intro t ht
  rw [ors_bit _ _ _ _ (Nat.lt_of_lt_of_le (place_lt h hm t) hmn), adds_bit]
  have : hit h m k (place h m t) = true := by
    simp only [hit, List.any_eq_true]
    exact ⟨t, ht, by simp⟩
  rw [this]
  simp

set_option maxRecDepth 100000 in
set_option maxHeartbeats 8000000 in
theorem walkA {w : World} {so so2 so3 : Option Addr} {n cp n2 cp2 dn dc : Nat} {f0 f1 : Nat → Nat} {s : Nat → UInt8} (hw : Raww w so n cp f0) (hw2 : Raww w so2 n2 cp2 f1) (m kk : Nat) (hm : m < 65536) (hk : kk < 256) (hd : Data w so3 dn dc s) (hn : n ≤ 2147483647) (hn2 : n2 ≤ 2147483647) (hdn : dn ≤ 2147483647) :
    Calls Try.prog 5 #[.int .u16 m, .int .u8 kk, .slice so n cp, .slice so2 n2 cp2, .slice so3 dn dc] w fun e w' => e = .returned (.bool true) ∧ Below w.heap.size w w' := by
  have HBF := Lib.hid (blFilter_any hw m kk hm hk hn)
  have hBF2 : ∀ X, Below w.heap.size w X → Calls Try.prog 12 #[.int .u16 m, .int .u8 kk, .slice so2 n2 cp2] X fun e w' => ∃ v g, e = .returned v ∧ Fil w' v (m % 700 + 1) (kk % 8 + 1) ((m % 700 + 64) / 64) g ∧ Below X.heap.size X w' := fun X hX => blFilter_any (hw2.same hX) m kk hm hk hn2
  have HBF2 := Lib.hid hBF2
  have HD := Lib.hid hd
  obtain ⟨M, hM⟩ : ∃ M, M = m % 700 + 1 := ⟨_, rfl⟩
  obtain ⟨K, hK⟩ : ∃ K, K = kk % 8 + 1 := ⟨_, rfl⟩
  obtain ⟨N, hN⟩ : ∃ N, N = (m % 700 + 64) / 64 := ⟨_, rfl⟩
  have hM0 : 0 < M := by omega
  have hK8 : K ≤ 8 := by omega
  have hN0 : 0 < N := by omega
  have hN1 : N ≤ 1000 := by omega
  have hMN : M ≤ 64 * N := by omega
  rw [← hM, ← hK, ← hN] at HBF HBF2
  obtain ⟨dm, hdm⟩ : ∃ x, x = min dn 80 := ⟨_, rfl⟩
  have hd80 : dm ≤ 80 := by omega
  have HDM := Lib.hid hdm
  obtain ⟨h, hh⟩ : ∃ h, h = hashes s dm := ⟨_, rfl⟩
  have HH := Lib.hid hh
  have HP : Hid (0 < M ∧ K ≤ 8 ∧ 0 < N ∧ N ≤ 1000 ∧ M ≤ 64 * N ∧ dm ≤ 80) := ⟨hM0, hK8, hN0, hN1, hMN, hd80⟩
  clear hM hK hN hw hw2 hBF2 hd hdm hh hMN
  go_enter Try.func5, Try.ntmps5
  go_wp2_with fail
  refine HBF.out.mono ?_
  rintro e w1 ⟨v0, ga, rfl, hf0, hb⟩
  have H0a : Hid (Below w.heap.size w w1) := hb
  obtain ⟨sl0, rfl, ⟨x0, y0, z0, rfl, hwd0⟩, hs0⟩ := hf0
  have H0f : Hid (Fil w1 (.agg #[.int .u64 (M : Nat), .int .u64 (K : Nat), .slice (some ⟨x0, y0, none⟩) N z0]) M K N ga) := ⟨_, rfl, ⟨x0, y0, z0, rfl, hwd0⟩, hs0⟩
  clear hb hwd0 hs0
  go_wp2_with fail
  refine (HBF2.out _ H0a.out).mono ?_
  rintro e w2 ⟨v1, gb, rfl, hf1, hb⟩
  obtain ⟨sl1, rfl, ⟨x1, y1, z1, rfl, hwd1⟩, hs1⟩ := hf1
  have H0b : Hid (Fil w2 (.agg #[.int .u64 (M : Nat), .int .u64 (K : Nat), .slice (some ⟨x0, y0, none⟩) N z0]) M K N ga ∧ Fil w2 (.agg #[.int .u64 (M : Nat), .int .u64 (K : Nat), .slice (some ⟨x1, y1, none⟩) N z1]) M K N gb ∧ Below w.heap.size w w2) := ⟨H0f.out.same hb, ⟨_, rfl, ⟨x1, y1, z1, rfl, hwd1⟩, hs1⟩, H0a.out.trans (hb.mono H0a.out.size)⟩
  clear hb hwd1 hs1 H0f
  go_wp2_with fail
  refine (blData_any (HD.out.same H0b.out.2.2) hdn).mono ?_
  rintro e w1' ⟨rfl, rfl⟩
  rw [← HDM.out]
  obtain ⟨b0, hb0⟩ : ∃ b, b = w2.heap.size := ⟨_, rfl⟩
  obtain ⟨b1, hb1⟩ : ∃ b, b = w2.heap.size + 1 := ⟨_, rfl⟩
  have H1 : Hid (Fil ((w2.alloc (.cells #[.int .u64 (M : Nat), .int .u64 (K : Nat), .slice (some ⟨x0, y0, none⟩) N z0] 27)).alloc (.cells #[.int .u64 (M : Nat), .int .u64 (K : Nat), .slice (some ⟨x1, y1, none⟩) N z1] 27)) (.agg #[.int .u64 (M : Nat), .int .u64 (K : Nat), .slice (some ⟨x0, y0, none⟩) N z0]) M K N ga ∧ Blk ((w2.alloc (.cells #[.int .u64 (M : Nat), .int .u64 (K : Nat), .slice (some ⟨x0, y0, none⟩) N z0] 27)).alloc (.cells #[.int .u64 (M : Nat), .int .u64 (K : Nat), .slice (some ⟨x1, y1, none⟩) N z1] 27)) b0 #[.int .u64 (M : Nat), .int .u64 (K : Nat), .slice (some ⟨x0, y0, none⟩) N z0] 27 ∧ Fil ((w2.alloc (.cells #[.int .u64 (M : Nat), .int .u64 (K : Nat), .slice (some ⟨x0, y0, none⟩) N z0] 27)).alloc (.cells #[.int .u64 (M : Nat), .int .u64 (K : Nat), .slice (some ⟨x1, y1, none⟩) N z1] 27)) (.agg #[.int .u64 (M : Nat), .int .u64 (K : Nat), .slice (some ⟨x1, y1, none⟩) N z1]) M K N gb ∧ Blk ((w2.alloc (.cells #[.int .u64 (M : Nat), .int .u64 (K : Nat), .slice (some ⟨x0, y0, none⟩) N z0] 27)).alloc (.cells #[.int .u64 (M : Nat), .int .u64 (K : Nat), .slice (some ⟨x1, y1, none⟩) N z1] 27)) b1 #[.int .u64 (M : Nat), .int .u64 (K : Nat), .slice (some ⟨x1, y1, none⟩) N z1] 27 ∧ Data ((w2.alloc (.cells #[.int .u64 (M : Nat), .int .u64 (K : Nat), .slice (some ⟨x0, y0, none⟩) N z0] 27)).alloc (.cells #[.int .u64 (M : Nat), .int .u64 (K : Nat), .slice (some ⟨x1, y1, none⟩) N z1] 27)) so3 dm dc s ∧ Below w.heap.size w ((w2.alloc (.cells #[.int .u64 (M : Nat), .int .u64 (K : Nat), .slice (some ⟨x0, y0, none⟩) N z0] 27)).alloc (.cells #[.int .u64 (M : Nat), .int .u64 (K : Nat), .slice (some ⟨x1, y1, none⟩) N z1] 27))) := by
    have hal : Below w2.heap.size w2 ((w2.alloc (.cells #[.int .u64 (M : Nat), .int .u64 (K : Nat), .slice (some ⟨x0, y0, none⟩) N z0] 27)).alloc (.cells #[.int .u64 (M : Nat), .int .u64 (K : Nat), .slice (some ⟨x1, y1, none⟩) N z1] 27)) := ((Below.refl _ _).alloc (Nat.le_refl _) _).alloc (by simp) _
    have hbl := H0b.out.2.2.trans (hal.mono H0b.out.2.2.size)
    have hdt := (HD.out.same hbl).cut
    rw [← HDM.out] at hdt
    have hx1 := Blk.new (w2.alloc (.cells #[.int .u64 (M : Nat), .int .u64 (K : Nat), .slice (some ⟨x0, y0, none⟩) N z0] 27)) #[.int .u64 (M : Nat), .int .u64 (K : Nat), .slice (some ⟨x1, y1, none⟩) N z1] 27
    simp at hx1
    exact ⟨H0b.out.1.same hal, by rw [hb0]; exact (Blk.new w2 _ _).alloc _, H0b.out.2.1.same hal, by rw [hb1]; exact hx1, hdt, hbl⟩
  go_wp2_with fail
  try rw [← hb1]
  try rw [← hb0]
  generalize ((w2.alloc (.cells #[.int .u64 (M : Nat), .int .u64 (K : Nat), .slice (some ⟨x0, y0, none⟩) N z0] 27)).alloc (.cells #[.int .u64 (M : Nat), .int .u64 (K : Nat), .slice (some ⟨x1, y1, none⟩) N z1] 27)) = W0 at H1 ⊢
  clear hb0 hb1
  have hc : ∀ X, Below W0.heap.size W0 X → X.cell? ⟨b0, 0, none⟩ = some (.int .u64 (M : Nat)) ∧ X.cell? ⟨b0, 1, none⟩ = some (.int .u64 (K : Nat)) ∧ X.cell? ⟨b0, 2, none⟩ = some (.slice (some ⟨x0, y0, none⟩) N z0) ∧ X.cell? ⟨b1, 0, none⟩ = some (.int .u64 (M : Nat)) ∧ X.cell? ⟨b1, 1, none⟩ = some (.int .u64 (K : Nat)) ∧ X.cell? ⟨b1, 2, none⟩ = some (.slice (some ⟨x1, y1, none⟩) N z1) := fun X hX => by
    have h0 : Blk X _ _ _ := (hX.block _ H1.out.2.1.lt).trans H1.out.2.1
    have h1 : Blk X _ _ _ := (hX.block _ H1.out.2.2.2.1.lt).trans H1.out.2.2.2.1
    exact ⟨h0.cell rfl, h0.cell rfl, h0.cell rfl, h1.cell rfl, h1.cell rfl, h1.cell rfl⟩
  have HC := Lib.hid hc
  have hA : ∀ X, Below W0.heap.size W0 X → Calls Try.prog 15 #[.agg #[.int .u64 (M : Nat), .int .u64 (K : Nat), .slice (some ⟨x0, y0, none⟩) N z0], .slice so3 dm dc] X fun e w' => (∃ x2 y2 z2, e = .returned (.agg #[.int .u64 (M : Nat), .int .u64 (K : Nat), .slice (some ⟨x2, y2, none⟩) N z2]) ∧ Fil w' (.agg #[.int .u64 (M : Nat), .int .u64 (K : Nat), .slice (some ⟨x2, y2, none⟩) N z2]) M K N (adds ga h M K)) ∧ Below X.heap.size X w' := fun X hX => by
    have := BLAdd_any (H1.out.1.same hX) HP.out.2.2.1 HP.out.2.2.2.1 HP.out.2.1 HP.out.1 HP.out.2.2.2.2.1 (H1.out.2.2.2.2.1.same hX) HP.out.2.2.2.2.2
    rw [← HH.out] at this
    refine this.mono ?_
    rintro e w' ⟨⟨v, rfl, hf⟩, hb⟩
    obtain ⟨sl, rfl, ⟨x5, y5, z5, rfl, hwd⟩, hsm⟩ := hf
    exact ⟨⟨x5, y5, z5, rfl, ⟨_, rfl, ⟨x5, y5, z5, rfl, hwd⟩, hsm⟩⟩, hb⟩
  have hMg : ∀ X (x2 y2 z2 : Nat), Below W0.heap.size W0 X → Fil X (.agg #[.int .u64 (M : Nat), .int .u64 (K : Nat), .slice (some ⟨x2, y2, none⟩) N z2]) M K N (adds ga h M K) → Calls Try.prog 16 #[.agg #[.int .u64 (M : Nat), .int .u64 (K : Nat), .slice (some ⟨x2, y2, none⟩) N z2], .agg #[.int .u64 (M : Nat), .int .u64 (K : Nat), .slice (some ⟨x1, y1, none⟩) N z1]] X fun e w' => (∃ x3 z3, e = .returned (.tuple #[.agg #[.int .u64 (M : Nat), .int .u64 (K : Nat), .slice (some ⟨x3, 0, none⟩) N z3], .bool true]) ∧ Fil w' (.agg #[.int .u64 (M : Nat), .int .u64 (K : Nat), .slice (some ⟨x3, 0, none⟩) N z3]) M K N (ors N (adds ga h M K) gb) ∧ X.heap.size ≤ x3) ∧ Below X.heap.size X w' := fun X x2 y2 z2 hX hf => BLMerge_any hf (H1.out.2.2.1.same hX) HP.out.2.2.1 HP.out.2.2.2.1
  have HA := Lib.hid hA
  have HMg := Lib.hid hMg
  obtain ⟨u0, u1, u2, u3, u4, u5⟩ := hc W0 (Below.refl _ _)
  clear hc hA hMg
  go_cut [14, 15] (fun va vb wx => ∃ b3 x3 z3, va = .pointer (some ⟨b3, 0, none⟩) ∧ vb = .bool true ∧ (Fil wx (.agg #[.int .u64 (M : Nat), .int .u64 (K : Nat), .slice (some ⟨x0, y0, none⟩) N z0]) M K N ga ∧ Blk wx b0 #[.int .u64 (M : Nat), .int .u64 (K : Nat), .slice (some ⟨x0, y0, none⟩) N z0] 27 ∧ Fil wx (.agg #[.int .u64 (M : Nat), .int .u64 (K : Nat), .slice (some ⟨x1, y1, none⟩) N z1]) M K N gb ∧ Blk wx b1 #[.int .u64 (M : Nat), .int .u64 (K : Nat), .slice (some ⟨x1, y1, none⟩) N z1] 27 ∧ Fil wx (.agg #[.int .u64 (M : Nat), .int .u64 (K : Nat), .slice (some ⟨x3, 0, none⟩) N z3]) M K N (ors N (adds ga h M K) gb) ∧ Blk wx b3 #[.int .u64 (M : Nat), .int .u64 (K : Nat), .slice (some ⟨x3, 0, none⟩) N z3] 27 ∧ Data wx so3 dm dc s ∧ Below w.heap.size w wx))
  case first =>
    go_region_held3 (fun w' => w'.cell? ⟨b0, 0, none⟩ = some (.int .u64 (M : Nat)) ∧ w'.cell? ⟨b0, 1, none⟩ = some (.int .u64 (K : Nat)) ∧ w'.cell? ⟨b0, 2, none⟩ = some (.slice (some ⟨x0, y0, none⟩) N z0) ∧ w'.cell? ⟨b1, 0, none⟩ = some (.int .u64 (M : Nat)) ∧ w'.cell? ⟨b1, 1, none⟩ = some (.int .u64 (K : Nat)) ∧ w'.cell? ⟨b1, 2, none⟩ = some (.slice (some ⟨x1, y1, none⟩) N z1))
      (first | exact ⟨u0, u1, u2, u3, u4, u5⟩ | exact HC.out _ G2.out.1 | exact HC.out _ (G2.out.1.alloc G2.out.1.size _) | exact HC.out _ G1.out.1 | exact HC.out _ (G1.out.1.alloc G1.out.1.size _) | exact HC.out _ ((Below.refl _ _).alloc (Nat.le_refl _) _) | exact HC.out _ ((Below.refl _ _).alloc (Nat.le_refl _) _).drew | exact HC.out _ (((G2.out.1.setCell hG2b _).setCell hG2b _).setCell hG2b _))
      (first
        | (have := G1; go_at_call 16; refine (HMg.out _ x2 y2 z2 ?_ ?_).mono ?_; (first | exact G1.out.1 | exact G1.out.1.alloc G1.out.1.size _); (first | exact G1.out.2 | exact G1.out.2.same ((Below.refl _ _).alloc (Nat.le_refl _) _)); rintro e c2 ⟨⟨x3, z3, rfl, hf, hx3⟩, hb⟩; have G2 : Hid (Below W0.heap.size W0 c2 ∧ Fil c2 (.agg #[.int .u64 (M : Nat), .int .u64 (K : Nat), .slice (some ⟨x3, 0, none⟩) N z3]) M K N (ors N (adds ga h M K) gb)) := ⟨(by first | exact G1.out.1.trans (hb.mono G1.out.1.size) | exact (G1.out.1.alloc G1.out.1.size _).trans (hb.mono (G1.out.1.alloc G1.out.1.size _).size)), hf⟩; (try (have Z2 : Hid (Blk c2 W0.heap.size #[.int .u64 0, .int .u64 0, .slice none 0 0] 27 ∧ x3 ≠ W0.heap.size) := ⟨(hb.block _ Z1.out.lt).trans Z1.out, by have := Z1.out.lt; omega⟩; have zb := Z2.out.1; have v0 : c2.cell? ⟨W0.heap.size, 0, none⟩ = some (.int .u64 0) := zb.cell rfl; have v1 : c2.cell? ⟨W0.heap.size, 1, none⟩ = some (.int .u64 0) := zb.cell rfl; have v2 : c2.cell? ⟨W0.heap.size, 2, none⟩ = some (.slice none 0 0) := zb.cell rfl; have v3 := zb.free 0; have v4 := zb.free 1; have v5 := zb.free 2; have hG2b : W0.heap.size ≤ W0.heap.size := Nat.le_refl _)); (try (have Z2 : Hid (Blk c2 c1.heap.size #[.int .u64 0, .int .u64 0, .slice none 0 0] 27 ∧ x3 ≠ c1.heap.size) := ⟨(hb.block _ (Blk.new c1 #[.int .u64 0, .int .u64 0, .slice none 0 0] 27).lt).trans (Blk.new c1 #[.int .u64 0, .int .u64 0, .slice none 0 0] 27), by simp at hx3; omega⟩; have zb := Z2.out.1; have v0 : c2.cell? ⟨c1.heap.size, 0, none⟩ = some (.int .u64 0) := zb.cell rfl; have v1 : c2.cell? ⟨c1.heap.size, 1, none⟩ = some (.int .u64 0) := zb.cell rfl; have v2 : c2.cell? ⟨c1.heap.size, 2, none⟩ = some (.slice none 0 0) := zb.cell rfl; have v3 := zb.free 0; have v4 := zb.free 1; have v5 := zb.free 2; have hG2b : W0.heap.size ≤ c1.heap.size := G1.out.1.size)); clear hb hf hx3)
        | (go_at_call 15; refine (HA.out _ ?_).mono ?_; (first | exact (Below.refl _ _).drew | exact ((Below.refl _ _).alloc (Nat.le_refl _) _).drew); rintro e c1 ⟨⟨x2, y2, z2, rfl, hf⟩, hb⟩; have G1 : Hid (Below W0.heap.size W0 c1 ∧ Fil c1 (.agg #[.int .u64 (M : Nat), .int .u64 (K : Nat), .slice (some ⟨x2, y2, none⟩) N z2]) M K N (adds ga h M K)) := ⟨(by first | exact (Below.refl _ _).drew.trans hb | exact ((Below.refl _ _).alloc (Nat.le_refl _) _).drew.trans (hb.mono (by simp))), hf⟩; (try (have Z1 : Hid (Blk c1 W0.heap.size #[.int .u64 0, .int .u64 0, .slice none 0 0] 27) := (hb.block _ (Blk.new W0 #[.int .u64 0, .int .u64 0, .slice none 0 0] 27).lt).trans (Blk.new W0 #[.int .u64 0, .int .u64 0, .slice none 0 0] 27))); clear hb hf))
    all_goals (go_wp2_with fail; go_meet)
    all_goals first
      | (have hbl := ((G2.out.1.setCell hG2b (p := ⟨_, 0, none⟩) (.int .u64 (M : Nat))).setCell hG2b (p := ⟨_, 1, none⟩) (.int .u64 (K : Nat))).setCell hG2b (p := ⟨_, 2, none⟩) (.slice (some ⟨x3, 0, none⟩) N z3)
         exact ⟨_, x3, z3, rfl, rfl, H1.out.1.same hbl, (hbl.block _ H1.out.2.1.lt).trans H1.out.2.1, H1.out.2.2.1.same hbl, (hbl.block _ H1.out.2.2.2.1.lt).trans H1.out.2.2.2.1, fil_set (fil_set (fil_set G2.out.2 Z2.out.2 _) Z2.out.2 _) Z2.out.2 _, ((Z2.out.1.set 0 _).set 1 _).set 2 _, H1.out.2.2.2.2.1.same hbl, H1.out.2.2.2.2.2.trans (hbl.mono H1.out.2.2.2.2.2.size)⟩)
      | (have hbl := G2.out.1.alloc G2.out.1.size (.cells #[.int .u64 (M : Nat), .int .u64 (K : Nat), .slice (some ⟨x3, 0, none⟩) N z3] 27)
         exact ⟨_, x3, z3, rfl, rfl, H1.out.1.same hbl, (hbl.block _ H1.out.2.1.lt).trans H1.out.2.1, H1.out.2.2.1.same hbl, (hbl.block _ H1.out.2.2.2.1.lt).trans H1.out.2.2.2.1, G2.out.2.same ((Below.refl _ _).alloc (Nat.le_refl _) _), Blk.new c2 _ _, H1.out.2.2.2.2.1.same hbl, H1.out.2.2.2.2.2.trans (hbl.mono H1.out.2.2.2.2.2.size)⟩)
  case rest =>
    obtain ⟨b3, x3, z3, rfl, rfl, hR⟩ := hcut
    have H3 : Hid (Fil wc (.agg #[.int .u64 (M : Nat), .int .u64 (K : Nat), .slice (some ⟨x0, y0, none⟩) N z0]) M K N ga ∧ Blk wc b0 #[.int .u64 (M : Nat), .int .u64 (K : Nat), .slice (some ⟨x0, y0, none⟩) N z0] 27 ∧ Fil wc (.agg #[.int .u64 (M : Nat), .int .u64 (K : Nat), .slice (some ⟨x1, y1, none⟩) N z1]) M K N gb ∧ Blk wc b1 #[.int .u64 (M : Nat), .int .u64 (K : Nat), .slice (some ⟨x1, y1, none⟩) N z1] 27 ∧ Fil wc (.agg #[.int .u64 (M : Nat), .int .u64 (K : Nat), .slice (some ⟨x3, 0, none⟩) N z3]) M K N (ors N (adds ga h M K) gb) ∧ Blk wc b3 #[.int .u64 (M : Nat), .int .u64 (K : Nat), .slice (some ⟨x3, 0, none⟩) N z3] 27 ∧ Data wc so3 dm dc s ∧ Below w.heap.size w wc) := hR
    clear hR
    have u0 : wc.cell? ⟨b1, 0, none⟩ = some (.int .u64 (M : Nat)) := H3.out.2.2.2.1.cell rfl
    have u1 : wc.cell? ⟨b1, 1, none⟩ = some (.int .u64 (K : Nat)) := H3.out.2.2.2.1.cell rfl
    have u2 : wc.cell? ⟨b1, 2, none⟩ = some (.slice (some ⟨x1, y1, none⟩) N z1) := H3.out.2.2.2.1.cell rfl
    have u3 : wc.cell? ⟨b0, 0, none⟩ = some (.int .u64 (M : Nat)) := H3.out.2.1.cell rfl
    have u4 : wc.cell? ⟨b0, 1, none⟩ = some (.int .u64 (K : Nat)) := H3.out.2.1.cell rfl
    have u5 : wc.cell? ⟨b0, 2, none⟩ = some (.slice (some ⟨x0, y0, none⟩) N z0) := H3.out.2.1.cell rfl
    go_wp2_with fail
    clear u0 u1 u2 u3 u4 u5
    refine (BLMerge_any H3.out.2.2.1 H3.out.1 HP.out.2.2.1 HP.out.2.2.2.1).mono ?_
    rintro e wa4 ⟨⟨x4, z4, rfl, hfil, hxx⟩, hb⟩
    obtain ⟨b4, hb4⟩ : ∃ b, b = wa4.heap.size := ⟨_, rfl⟩
    have hal : Below wa4.heap.size wa4 (wa4.alloc (.cells #[.int .u64 (M : Nat), .int .u64 (K : Nat), .slice (some ⟨x4, 0, none⟩) N z4] 27)) := (Below.refl _ _).alloc (Nat.le_refl _) _
    have hbw : Below wc.heap.size wc (wa4.alloc (.cells #[.int .u64 (M : Nat), .int .u64 (K : Nat), .slice (some ⟨x4, 0, none⟩) N z4] 27)) := hb.trans (hal.mono hb.size)
    have H4 : Hid (Fil (wa4.alloc (.cells #[.int .u64 (M : Nat), .int .u64 (K : Nat), .slice (some ⟨x4, 0, none⟩) N z4] 27)) (.agg #[.int .u64 (M : Nat), .int .u64 (K : Nat), .slice (some ⟨x0, y0, none⟩) N z0]) M K N ga ∧ Blk (wa4.alloc (.cells #[.int .u64 (M : Nat), .int .u64 (K : Nat), .slice (some ⟨x4, 0, none⟩) N z4] 27)) b0 #[.int .u64 (M : Nat), .int .u64 (K : Nat), .slice (some ⟨x0, y0, none⟩) N z0] 27 ∧ Fil (wa4.alloc (.cells #[.int .u64 (M : Nat), .int .u64 (K : Nat), .slice (some ⟨x4, 0, none⟩) N z4] 27)) (.agg #[.int .u64 (M : Nat), .int .u64 (K : Nat), .slice (some ⟨x1, y1, none⟩) N z1]) M K N gb ∧ Blk (wa4.alloc (.cells #[.int .u64 (M : Nat), .int .u64 (K : Nat), .slice (some ⟨x4, 0, none⟩) N z4] 27)) b1 #[.int .u64 (M : Nat), .int .u64 (K : Nat), .slice (some ⟨x1, y1, none⟩) N z1] 27 ∧ Fil (wa4.alloc (.cells #[.int .u64 (M : Nat), .int .u64 (K : Nat), .slice (some ⟨x4, 0, none⟩) N z4] 27)) (.agg #[.int .u64 (M : Nat), .int .u64 (K : Nat), .slice (some ⟨x3, 0, none⟩) N z3]) M K N (ors N (adds ga h M K) gb) ∧ Blk (wa4.alloc (.cells #[.int .u64 (M : Nat), .int .u64 (K : Nat), .slice (some ⟨x4, 0, none⟩) N z4] 27)) b3 #[.int .u64 (M : Nat), .int .u64 (K : Nat), .slice (some ⟨x3, 0, none⟩) N z3] 27 ∧ Fil (wa4.alloc (.cells #[.int .u64 (M : Nat), .int .u64 (K : Nat), .slice (some ⟨x4, 0, none⟩) N z4] 27)) (.agg #[.int .u64 (M : Nat), .int .u64 (K : Nat), .slice (some ⟨x4, 0, none⟩) N z4]) M K N (ors N gb ga) ∧ Blk (wa4.alloc (.cells #[.int .u64 (M : Nat), .int .u64 (K : Nat), .slice (some ⟨x4, 0, none⟩) N z4] 27)) b4 #[.int .u64 (M : Nat), .int .u64 (K : Nat), .slice (some ⟨x4, 0, none⟩) N z4] 27 ∧ Data (wa4.alloc (.cells #[.int .u64 (M : Nat), .int .u64 (K : Nat), .slice (some ⟨x4, 0, none⟩) N z4] 27)) so3 dm dc s ∧ Below w.heap.size w (wa4.alloc (.cells #[.int .u64 (M : Nat), .int .u64 (K : Nat), .slice (some ⟨x4, 0, none⟩) N z4] 27))) :=
      ⟨H3.out.1.same hbw, (hbw.block _ H3.out.2.1.lt).trans H3.out.2.1, H3.out.2.2.1.same hbw, (hbw.block _ H3.out.2.2.2.1.lt).trans H3.out.2.2.2.1, H3.out.2.2.2.2.1.same hbw, (hbw.block _ H3.out.2.2.2.2.2.1.lt).trans H3.out.2.2.2.2.2.1, hfil.same hal, by rw [hb4]; exact Blk.new wa4 _ _, H3.out.2.2.2.2.2.2.1.same hbw, H3.out.2.2.2.2.2.2.2.trans (hbw.mono H3.out.2.2.2.2.2.2.2.size)⟩
    have u0 : (wa4.alloc (.cells #[.int .u64 (M : Nat), .int .u64 (K : Nat), .slice (some ⟨x4, 0, none⟩) N z4] 27)).cell? ⟨b0, 0, none⟩ = some (.int .u64 (M : Nat)) := H4.out.2.1.cell rfl
    have u1 : (wa4.alloc (.cells #[.int .u64 (M : Nat), .int .u64 (K : Nat), .slice (some ⟨x4, 0, none⟩) N z4] 27)).cell? ⟨b0, 1, none⟩ = some (.int .u64 (K : Nat)) := H4.out.2.1.cell rfl
    have u2 : (wa4.alloc (.cells #[.int .u64 (M : Nat), .int .u64 (K : Nat), .slice (some ⟨x4, 0, none⟩) N z4] 27)).cell? ⟨b0, 2, none⟩ = some (.slice (some ⟨x0, y0, none⟩) N z0) := H4.out.2.1.cell rfl
    clear hfil hal hbw hb hxx
    go_wp2_with fail
    clear u0 u1 u2
    try rw [← hb4]
    generalize (wa4.alloc (.cells #[.int .u64 (M : Nat), .int .u64 (K : Nat), .slice (some ⟨x4, 0, none⟩) N z4] 27)) = W4 at H4 ⊢
    clear hb4
    refine (BLMerge_any H4.out.1 H4.out.1 HP.out.2.2.1 HP.out.2.2.2.1).mono ?_
    rintro e wa5 ⟨⟨x5, z5, rfl, hfil, hxx⟩, hb⟩
    obtain ⟨b5, hb5⟩ : ∃ b, b = wa5.heap.size := ⟨_, rfl⟩
    have hal : Below wa5.heap.size wa5 (wa5.alloc (.cells #[.int .u64 (M : Nat), .int .u64 (K : Nat), .slice (some ⟨x5, 0, none⟩) N z5] 27)) := (Below.refl _ _).alloc (Nat.le_refl _) _
    have hbw : Below W4.heap.size W4 (wa5.alloc (.cells #[.int .u64 (M : Nat), .int .u64 (K : Nat), .slice (some ⟨x5, 0, none⟩) N z5] 27)) := hb.trans (hal.mono hb.size)
    have H5 : Hid (Fil (wa5.alloc (.cells #[.int .u64 (M : Nat), .int .u64 (K : Nat), .slice (some ⟨x5, 0, none⟩) N z5] 27)) (.agg #[.int .u64 (M : Nat), .int .u64 (K : Nat), .slice (some ⟨x0, y0, none⟩) N z0]) M K N ga ∧ Blk (wa5.alloc (.cells #[.int .u64 (M : Nat), .int .u64 (K : Nat), .slice (some ⟨x5, 0, none⟩) N z5] 27)) b0 #[.int .u64 (M : Nat), .int .u64 (K : Nat), .slice (some ⟨x0, y0, none⟩) N z0] 27 ∧ Fil (wa5.alloc (.cells #[.int .u64 (M : Nat), .int .u64 (K : Nat), .slice (some ⟨x5, 0, none⟩) N z5] 27)) (.agg #[.int .u64 (M : Nat), .int .u64 (K : Nat), .slice (some ⟨x1, y1, none⟩) N z1]) M K N gb ∧ Blk (wa5.alloc (.cells #[.int .u64 (M : Nat), .int .u64 (K : Nat), .slice (some ⟨x5, 0, none⟩) N z5] 27)) b1 #[.int .u64 (M : Nat), .int .u64 (K : Nat), .slice (some ⟨x1, y1, none⟩) N z1] 27 ∧ Fil (wa5.alloc (.cells #[.int .u64 (M : Nat), .int .u64 (K : Nat), .slice (some ⟨x5, 0, none⟩) N z5] 27)) (.agg #[.int .u64 (M : Nat), .int .u64 (K : Nat), .slice (some ⟨x3, 0, none⟩) N z3]) M K N (ors N (adds ga h M K) gb) ∧ Blk (wa5.alloc (.cells #[.int .u64 (M : Nat), .int .u64 (K : Nat), .slice (some ⟨x5, 0, none⟩) N z5] 27)) b3 #[.int .u64 (M : Nat), .int .u64 (K : Nat), .slice (some ⟨x3, 0, none⟩) N z3] 27 ∧ Fil (wa5.alloc (.cells #[.int .u64 (M : Nat), .int .u64 (K : Nat), .slice (some ⟨x5, 0, none⟩) N z5] 27)) (.agg #[.int .u64 (M : Nat), .int .u64 (K : Nat), .slice (some ⟨x4, 0, none⟩) N z4]) M K N (ors N gb ga) ∧ Blk (wa5.alloc (.cells #[.int .u64 (M : Nat), .int .u64 (K : Nat), .slice (some ⟨x5, 0, none⟩) N z5] 27)) b4 #[.int .u64 (M : Nat), .int .u64 (K : Nat), .slice (some ⟨x4, 0, none⟩) N z4] 27 ∧ Fil (wa5.alloc (.cells #[.int .u64 (M : Nat), .int .u64 (K : Nat), .slice (some ⟨x5, 0, none⟩) N z5] 27)) (.agg #[.int .u64 (M : Nat), .int .u64 (K : Nat), .slice (some ⟨x5, 0, none⟩) N z5]) M K N (ors N ga ga) ∧ Blk (wa5.alloc (.cells #[.int .u64 (M : Nat), .int .u64 (K : Nat), .slice (some ⟨x5, 0, none⟩) N z5] 27)) b5 #[.int .u64 (M : Nat), .int .u64 (K : Nat), .slice (some ⟨x5, 0, none⟩) N z5] 27 ∧ Data (wa5.alloc (.cells #[.int .u64 (M : Nat), .int .u64 (K : Nat), .slice (some ⟨x5, 0, none⟩) N z5] 27)) so3 dm dc s ∧ Below w.heap.size w (wa5.alloc (.cells #[.int .u64 (M : Nat), .int .u64 (K : Nat), .slice (some ⟨x5, 0, none⟩) N z5] 27))) :=
      ⟨H4.out.1.same hbw, (hbw.block _ H4.out.2.1.lt).trans H4.out.2.1, H4.out.2.2.1.same hbw, (hbw.block _ H4.out.2.2.2.1.lt).trans H4.out.2.2.2.1, H4.out.2.2.2.2.1.same hbw, (hbw.block _ H4.out.2.2.2.2.2.1.lt).trans H4.out.2.2.2.2.2.1, H4.out.2.2.2.2.2.2.1.same hbw, (hbw.block _ H4.out.2.2.2.2.2.2.2.1.lt).trans H4.out.2.2.2.2.2.2.2.1, hfil.same hal, by rw [hb5]; exact Blk.new wa5 _ _, H4.out.2.2.2.2.2.2.2.2.1.same hbw, H4.out.2.2.2.2.2.2.2.2.2.trans (hbw.mono H4.out.2.2.2.2.2.2.2.2.2.size)⟩
    clear hfil hal hbw hb hxx
    go_wp2_with fail
    try rw [← hb5]
    generalize (wa5.alloc (.cells #[.int .u64 (M : Nat), .int .u64 (K : Nat), .slice (some ⟨x5, 0, none⟩) N z5] 27)) = W5 at H5 ⊢
    clear hb5
    have hc : ∀ X, Below W5.heap.size W5 X → X.cell? ⟨b0, 0, none⟩ = some (.int .u64 (M : Nat)) ∧ X.cell? ⟨b0, 1, none⟩ = some (.int .u64 (K : Nat)) ∧ X.cell? ⟨b0, 2, none⟩ = some (.slice (some ⟨x0, y0, none⟩) N z0) ∧ X.cell? ⟨b3, 0, none⟩ = some (.int .u64 (M : Nat)) ∧ X.cell? ⟨b3, 1, none⟩ = some (.int .u64 (K : Nat)) ∧ X.cell? ⟨b3, 2, none⟩ = some (.slice (some ⟨x3, 0, none⟩) N z3) ∧ X.cell? ⟨b4, 0, none⟩ = some (.int .u64 (M : Nat)) ∧ X.cell? ⟨b4, 1, none⟩ = some (.int .u64 (K : Nat)) ∧ X.cell? ⟨b4, 2, none⟩ = some (.slice (some ⟨x4, 0, none⟩) N z4) ∧ X.cell? ⟨b5, 0, none⟩ = some (.int .u64 (M : Nat)) ∧ X.cell? ⟨b5, 1, none⟩ = some (.int .u64 (K : Nat)) ∧ X.cell? ⟨b5, 2, none⟩ = some (.slice (some ⟨x5, 0, none⟩) N z5) := fun X hX => by
      have h0 : Blk X _ _ _ := (hX.block _ H5.out.2.1.lt).trans H5.out.2.1
      have h3 : Blk X _ _ _ := (hX.block _ H5.out.2.2.2.2.2.1.lt).trans H5.out.2.2.2.2.2.1
      have h4 : Blk X _ _ _ := (hX.block _ H5.out.2.2.2.2.2.2.2.1.lt).trans H5.out.2.2.2.2.2.2.2.1
      have h5 : Blk X _ _ _ := (hX.block _ H5.out.2.2.2.2.2.2.2.2.2.1.lt).trans H5.out.2.2.2.2.2.2.2.2.2.1
      exact ⟨h0.cell rfl, h0.cell rfl, h0.cell rfl, h3.cell rfl, h3.cell rfl, h3.cell rfl, h4.cell rfl, h4.cell rfl, h4.cell rfl, h5.cell rfl, h5.cell rfl, h5.cell rfl⟩
    have HC5 := Lib.hid hc
    have hA6 : ∀ X, Below W5.heap.size W5 X → Calls Try.prog 15 #[.agg #[.int .u64 (M : Nat), .int .u64 (K : Nat), .slice (some ⟨x4, 0, none⟩) N z4], .slice so3 dm dc] X fun e w' => (∃ x6 y6 z6, e = .returned (.agg #[.int .u64 (M : Nat), .int .u64 (K : Nat), .slice (some ⟨x6, y6, none⟩) N z6]) ∧ Fil w' (.agg #[.int .u64 (M : Nat), .int .u64 (K : Nat), .slice (some ⟨x6, y6, none⟩) N z6]) M K N (adds (ors N gb ga) h M K)) ∧ Below X.heap.size X w' := fun X hX => by
      have := BLAdd_any (H5.out.2.2.2.2.2.2.1.same hX) HP.out.2.2.1 HP.out.2.2.2.1 HP.out.2.1 HP.out.1 HP.out.2.2.2.2.1 (H5.out.2.2.2.2.2.2.2.2.2.2.1.same hX) HP.out.2.2.2.2.2
      rw [← HH.out] at this
      refine this.mono ?_
      rintro e w' ⟨⟨v, rfl, hf⟩, hb⟩
      obtain ⟨sl, rfl, ⟨x5, y5, z5, rfl, hwd⟩, hsm⟩ := hf
      exact ⟨⟨x5, y5, z5, rfl, ⟨_, rfl, ⟨x5, y5, z5, rfl, hwd⟩, hsm⟩⟩, hb⟩
    have hT : ∀ X, Below W5.heap.size W5 X → Calls Try.prog 10 #[.agg #[.int .u64 (M : Nat), .int .u64 (K : Nat), .slice (some ⟨x3, 0, none⟩) N z3], .slice so3 dm dc] X fun e w' => e = .returned (.bool true) ∧ Below X.heap.size X w' := fun X hX => by
      have := BLTest_any (H5.out.2.2.2.2.1.same hX) HP.out.2.2.1 HP.out.2.2.2.1 HP.out.2.1 HP.out.1 HP.out.2.2.2.2.1 (H5.out.2.2.2.2.2.2.2.2.2.2.1.same hX) HP.out.2.2.2.2.2
      rw [← HH.out, found_merged HP.out.1 HP.out.2.2.2.2.1] at this; exact this
    have hE : ∀ X (x6 y6 z6 : Nat), Below W5.heap.size W5 X → Fil X (.agg #[.int .u64 (M : Nat), .int .u64 (K : Nat), .slice (some ⟨x6, y6, none⟩) N z6]) M K N (adds (ors N gb ga) h M K) → Calls Try.prog 9 #[.agg #[.int .u64 (M : Nat), .int .u64 (K : Nat), .slice (some ⟨x3, 0, none⟩) N z3], .agg #[.int .u64 (M : Nat), .int .u64 (K : Nat), .slice (some ⟨x6, y6, none⟩) N z6]] X fun e w' => e = .returned (.bool true) ∧ Below X.heap.size X w' := fun X x6 y6 z6 hX hf => by
      obtain ⟨_, _, _, sm1⟩ := H5.out.2.2.2.2.1
      have hf2 := hf
      obtain ⟨_, _, _, sm2⟩ := hf2
      exact BLEqual_any (H5.out.2.2.2.2.1.same hX) hf (fun i hi => same_words sm1 sm2 (fun j hj => by rw [ors_bit _ _ _ _ hj, adds_bit, adds_bit, ors_bit _ _ _ _ hj]; cases bit ga j <;> cases bit gb j <;> cases hit h M K j <;> rfl) i hi) HP.out.2.2.1 HP.out.2.2.2.1
    have hE2 : ∀ X, Below W5.heap.size W5 X → Calls Try.prog 9 #[.agg #[.int .u64 (M : Nat), .int .u64 (K : Nat), .slice (some ⟨x5, 0, none⟩) N z5], .agg #[.int .u64 (M : Nat), .int .u64 (K : Nat), .slice (some ⟨x0, y0, none⟩) N z0]] X fun e w' => e = .returned (.bool true) ∧ Below X.heap.size X w' := fun X hX =>
      BLEqual_any (H5.out.2.2.2.2.2.2.2.2.1.same hX) (H5.out.1.same hX) (fun i hi => by unfold ors; rw [if_pos hi, Nat.or_self]) HP.out.2.2.1 HP.out.2.2.2.1
    have HT := Lib.hid hT
    have HA6 := Lib.hid hA6
    have HE := Lib.hid hE
    have HE2 := Lib.hid hE2
    obtain ⟨u0, u1, u2, u3, u4, u5, u6, u7, u8, u9, u10, u11⟩ := hc W5 (Below.refl _ _)
    clear hT hA6 hE hE2 hc
    go_region_held3 (fun w' => w'.cell? ⟨b0, 0, none⟩ = some (.int .u64 (M : Nat)) ∧ w'.cell? ⟨b0, 1, none⟩ = some (.int .u64 (K : Nat)) ∧ w'.cell? ⟨b0, 2, none⟩ = some (.slice (some ⟨x0, y0, none⟩) N z0) ∧ w'.cell? ⟨b3, 0, none⟩ = some (.int .u64 (M : Nat)) ∧ w'.cell? ⟨b3, 1, none⟩ = some (.int .u64 (K : Nat)) ∧ w'.cell? ⟨b3, 2, none⟩ = some (.slice (some ⟨x3, 0, none⟩) N z3) ∧ w'.cell? ⟨b4, 0, none⟩ = some (.int .u64 (M : Nat)) ∧ w'.cell? ⟨b4, 1, none⟩ = some (.int .u64 (K : Nat)) ∧ w'.cell? ⟨b4, 2, none⟩ = some (.slice (some ⟨x4, 0, none⟩) N z4) ∧ w'.cell? ⟨b5, 0, none⟩ = some (.int .u64 (M : Nat)) ∧ w'.cell? ⟨b5, 1, none⟩ = some (.int .u64 (K : Nat)) ∧ w'.cell? ⟨b5, 2, none⟩ = some (.slice (some ⟨x5, 0, none⟩) N z5))
      (first | exact ⟨u0, u1, u2, u3, u4, u5, u6, u7, u8, u9, u10, u11⟩ | exact HC5.out _ G4.out | exact HC5.out _ G3.out | exact HC5.out _ G2.out | exact HC5.out _ G1.out.1)
      (first
        | (have := G3; go_at_call 10; refine (HT.out _ G3.out).mono ?_; rintro e c4 ⟨rfl, hb⟩; have G4 : Hid (Below W5.heap.size W5 c4) := Lib.hid (G3.out.trans (hb.mono G3.out.size)); clear hb)
        | (have := G2; go_at_call 9; refine (HE2.out _ G2.out).mono ?_; rintro e c3 ⟨rfl, hb⟩; have G3 : Hid (Below W5.heap.size W5 c3) := Lib.hid (G2.out.trans (hb.mono G2.out.size)); clear hb)
        | (have := G1; go_at_call 9; refine (HE.out _ x6 y6 z6 G1.out.1 G1.out.2).mono ?_; rintro e c2 ⟨rfl, hb⟩; have G2 : Hid (Below W5.heap.size W5 c2) := Lib.hid (G1.out.1.trans (hb.mono G1.out.1.size)); clear hb)
        | (go_at_call 15; refine (HA6.out _ (Below.refl _ _).drew).mono ?_; rintro e c1 ⟨⟨x6, y6, z6, rfl, hf⟩, hb⟩; have G1 : Hid (Below W5.heap.size W5 c1 ∧ Fil c1 (.agg #[.int .u64 (M : Nat), .int .u64 (K : Nat), .slice (some ⟨x6, y6, none⟩) N z6]) M K N (adds (ors N gb ga) h M K)) := ⟨(Below.refl _ _).drew.trans hb, hf⟩; clear hb hf))
    go_wp2_with fail
    go_ret
    exact ⟨rfl, H5.out.2.2.2.2.2.2.2.2.2.2.2.trans (G4.out.mono H5.out.2.2.2.2.2.2.2.2.2.2.2.size)⟩
set_option maxRecDepth 100000 in
theorem walk {w : World} {so so2 so3 : Option Addr} {n cp n2 cp2 dn dc : Nat} {f0 f1 : Nat → Nat} {s : Nat → UInt8} (hw : Raww w so n cp f0) (hw2 : Raww w so2 n2 cp2 f1) (m kk : Nat) (hm : m < 65536) (hk : kk < 256) (hd : Data w so3 dn dc s) :
    Calls Try.prog 5 #[.int .u16 m, .int .u8 kk, .slice so n cp, .slice so2 n2 cp2, .slice so3 dn dc] w fun e w' => e = .returned (.bool true) ∧ Below w.heap.size w w' := by
  by_cases hn : n ≤ 2147483647
  · by_cases hn2 : n2 ≤ 2147483647
    · by_cases hdn : dn ≤ 2147483647
      · exact walkA hw hw2 m kk hm hk hd hn hn2 hdn
      · clear hw hw2 hd
        go_enter Try.func5, Try.ntmps5
        go_wp2_with fail
        go_ret
        exact ⟨rfl, Below.refl _ _⟩
    · clear hw hw2 hd
      go_enter Try.func5, Try.ntmps5
      go_wp2_with fail
      go_ret
      exact ⟨rfl, Below.refl _ _⟩
  · clear hw hw2 hd
    go_enter Try.func5, Try.ntmps5
    go_wp2_with fail
    go_ret
    exact ⟨rfl, Below.refl _ _⟩

theorem own : ownKnob Try.prog.godebug = none := by kernel_rfl
theorem laidOut : laidOutB Try.prog = true := by kernel_rfl

set_option maxRecDepth 100000 in
theorem lifted (os : Os) (started : os.Started) (H : Type) (enc : TypeId × Value → H) :
    ReturnsInHanded {} Try.checked os 5 .any (Rows.fnBLDeepMergeSpec.pre6 enc Try.prog Try.f5 Rows.fnBLDeepMergeRow.domain false) (Rows.fnBLDeepMergeSpec.post enc Try.prog Try.f5 false true false false) := by
  refine LawKit.lifted (C := Try.checked) (T := 4) own started (by kernel_rfl) Try.func5 laidOut (by kernel_rfl) (by kernel_rfl) Try.underlying4 rfl ?_
    (ChangeSpec.witness6 (enc := enc) (C := Try.checked) false ⟨#[], #[.int .u16 0, .int .u8 0, .slice none 0 0, .slice none 0 0, .slice none 0 0], []⟩ 8 (by kernel_rfl) (by kernel_rfl) (by kernel_rfl) (by kernel_rfl)) ?_
  · intro ds hd
    match ds, hd with
    | [_, _, _, _, _], _ => rfl
  · intro W base args ds p hval0 hA0 _
    have hval : ∀ (j : Nat) t v, Try.f5.params[j]? = some t → args[j]? = some v → Value.okWide Try.prog W .any base t v := hval0
    have hA : DataW.TrodAll enc Try.prog W 0 (fun _ => true) true Try.f5.params.toList args.toList ds p := hA0
    rw [Try.params5] at hA hval
    obtain ⟨v0, vs0, d0, ds0, p0, q0, hargs, rfl, rfl, h0, r0⟩ := trodAll_cons hA
    obtain ⟨v1, vs1, d1, ds1, p1, q1, rfl, rfl, rfl, h1, r1⟩ := trodAll_cons r0
    obtain ⟨v2, vs2, d2, ds2, p2, q2, rfl, rfl, rfl, h2, r2⟩ := trodAll_cons r1
    obtain ⟨v3, vs3, d3, ds3, p3, q3, rfl, rfl, rfl, h3, r3⟩ := trodAll_cons r2
    obtain ⟨v4, vs4, d4, ds4, p4, q4, rfl, rfl, rfl, h4, r4⟩ := trodAll_cons r3
    obtain ⟨rfl, rfl, rfl⟩ := trodAll_nil r4
    obtain rfl : args = #[v0, v1, v2, v3, v4] := by cases args; simp_all
    obtain ⟨a0, rfl, rfl, rfl, w0⟩ := open_int Try.underlying34 (hval 0 34 v0 rfl rfl) h0
    have b0 := bounds_u16 w0
    obtain ⟨i0, rfl⟩ : ∃ i : Nat, a0 = (i : Int) := ⟨a0.toNat, by omega⟩
    obtain ⟨a1, rfl, rfl, rfl, w1⟩ := open_int Try.underlying5 (hval 1 5 v1 rfl rfl) h1
    have b1 := bounds_u8 w1
    obtain ⟨i1, rfl⟩ : ∃ i : Nat, a1 = (i : Int) := ⟨a1.toNat, by omega⟩
    obtain ⟨so2, n2, cp2, rfl⟩ := okWide_slice Try.underlying22 (hval 2 22 v2 rfl rfl)
    obtain ⟨fu2, hf2⟩ := h2
    obtain ⟨so2', n2', cp2', f2, hv2, hr2⟩ := open_raww hf2
    simp only [Value.slice.injEq] at hv2
    obtain ⟨rfl, rfl, rfl⟩ := hv2
    obtain ⟨so3, n3, cp3, rfl⟩ := okWide_slice Try.underlying22 (hval 3 22 v3 rfl rfl)
    obtain ⟨fu3, hf3⟩ := h3
    obtain ⟨so3', n3', cp3', f3, hv3, hr3⟩ := open_raww hf3
    simp only [Value.slice.injEq] at hv3
    obtain ⟨rfl, rfl, rfl⟩ := hv3
    obtain ⟨so4, n4, cp4, rfl⟩ := okWide_slice Try.underlying23 (hval 4 23 v4 rfl rfl)
    obtain ⟨fu4, hf4⟩ := h4
    obtain ⟨so4', n4', cp4', s4, hv4, hr4⟩ := open_data hf4
    simp only [Value.slice.injEq] at hv4
    obtain ⟨rfl, rfl, rfl⟩ := hv4
    exact walk hr2 hr3 i0 i1 (by omega) (by omega) hr4

theorem proved : Rows.FnBLDeepMergeSaid :=
  OpenClaim.holds_of_wide 5 Try.f5 rfl rfl rfl rfl rfl rfl rfl ⟨rfl, rfl, rfl, rfl, rfl⟩ rfl rfl rfl rfl rfl (by kernel_rfl) Try.func5 (by kernel_rfl)
    (of_decide_eq_true (by kernel_rfl)) (by unfold Func.isWrapper; first | (rw [if_pos (by decide +kernel)]; kernel_rfl) | (rw [if_neg (by decide +kernel)]; exact ⟨rfl, rfl⟩))
    (fun os started H enc _ => lifted os started H enc)
#print axioms proved
end Go.Proofs.Ytbkodehcjhpcmaa.LMerge
