/- FnBLDeepFrom answers true for all words, every number of hash functions and all data. -/
import Derived.Test.YtbkodehcjhpcmaaL17
import Derived.Test.YtbkodehcjhpcmaaLawKit
namespace Go.Proofs.Ytbkodehcjhpcmaa.LFrom
open Go.RowKit Go.ChangeShapes Go.WideShapes Go.ChangeAt Go.Deep
set_option maxRecDepth 100000 in
set_option maxHeartbeats 4000000 in
theorem walkA {w : World} {so so2 : Option Addr} {n cp dn dc : Nat} {f : Nat → Nat} {s : Nat → UInt8} (hw : Raww w so n cp f) (kk : Nat) (hk : kk < 256) (hd : Data w so2 dn dc s) (hn : n ≤ 2147483647) (hdn : dn ≤ 2147483647) (h1 : 1 ≤ n) (h2 : n ≤ 12) :
    Calls Try.prog 3 #[.slice so n cp, .int .u8 kk, .slice so2 dn dc] w fun e w' => e = .returned (.bool true) ∧ Below w.heap.size w w' := by
  have HW := Lib.hid hw
  have HD := Lib.hid hd
  have hncp := hw.1
  have hcast : (kk : Int) % 8 = ((kk % 8 : Nat) : Int) := rfl
  have hx : kk % 8 < 8 := Nat.mod_lt _ (by decide)
  obtain ⟨x, hxe⟩ : ∃ i, i = kk % 8 := ⟨_, rfl⟩
  rw [← hxe] at hcast hx
  obtain ⟨K, hK⟩ : ∃ i, i = x + 1 := ⟨_, rfl⟩
  have hK1 : (1 : Int) + (x : Int) = (K : Int) := by omega
  have hK8 : K ≤ 8 := by omega
  clear hxe hK hw hd
  obtain ⟨l, hl⟩ : ∃ l, l = 64 * n := ⟨_, rfl⟩
  have hl1 : (64 : Int) * ((n : Nat) : Int) = (l : Int) := by omega
  have hl2 : 0 < l ∧ l ≤ 1000 := by omega
  have HL := Lib.hid hl
  obtain ⟨b, o, rfl, hc⟩ := HW.out.2.2 (by omega)
  have H1 : Hid (Wds w (.slice (some ⟨b, o, none⟩) n cp) n f ∧ (∀ i, f i < 18446744073709551616) ∧ Below w.heap.size w w) := ⟨⟨b, o, cp, rfl, hncp, hc⟩, HW.out.2.1, Below.refl _ _⟩
  clear hc hl
  go_enter Try.func3, Try.ntmps3
  go_wp2_with fail
  refine (BLFrom_any (l := l) (k := K) H1.out.1 H1.out.2.1 (by omega) (by omega) HL.out).mono ?_
  rintro e w2 ⟨v1, rfl, ⟨sl1, rfl, hf1⟩, hb⟩
  obtain ⟨p1, p2, p3, rfl⟩ := fil_shape hf1
  have H2 : Hid (Fil w2 (.agg #[.int .u64 (l : Nat), .int .u64 (K : Nat), .slice (some ⟨p1, p2, none⟩) n p3]) l K n f ∧ Below w.heap.size w w2 ∧ Wds w2 _ n f) := ⟨hf1, H1.out.2.2.trans (hb.mono H1.out.2.2.size), H1.out.1.same hb⟩
  clear hf1 hb
  go_wp2_with fail
  refine (BLFromWithM_any (m := l) (k := K) H2.out.2.2 H1.out.2.1 (by omega) (by omega)).mono ?_
  rintro e w3 ⟨v2, rfl, ⟨sl2, rfl, hf2⟩, hb⟩
  obtain ⟨r1, r2, r3, rfl⟩ := fil_shape hf2
  have H3 : Hid (Fil w3 (.agg #[.int .u64 (l : Nat), .int .u64 (K : Nat), .slice (some ⟨p1, p2, none⟩) n p3]) l K n f ∧ Fil w3 (.agg #[.int .u64 (l : Nat), .int .u64 (K : Nat), .slice (some ⟨r1, r2, none⟩) n r3]) l K n f ∧ Below w.heap.size w w3) := ⟨H2.out.1.same hb, hf2, H2.out.2.1.trans (hb.mono H2.out.2.1.size)⟩
  clear hf2 hb
  go_wp2_with fail
  have b0 : Below w3.heap.size w3 ((w3.alloc (.cells #[.int .u64 (l : Nat), .int .u64 (K : Nat), .slice (some ⟨p1, p2, none⟩) n p3] 27)).alloc (.cells #[.int .u64 (l : Nat), .int .u64 (K : Nat), .slice (some ⟨r1, r2, none⟩) n r3] 27)) := ((Below.refl _ _).alloc (Nat.le_refl _) _).alloc (by simp) _
  have hBy := Blk.new (w3.alloc (.cells #[.int .u64 (l : Nat), .int .u64 (K : Nat), .slice (some ⟨p1, p2, none⟩) n p3] 27)) #[.int .u64 (l : Nat), .int .u64 (K : Nat), .slice (some ⟨r1, r2, none⟩) n r3] 27
  have hBx : Blk ((w3.alloc (.cells #[.int .u64 (l : Nat), .int .u64 (K : Nat), .slice (some ⟨p1, p2, none⟩) n p3] 27)).alloc (.cells #[.int .u64 (l : Nat), .int .u64 (K : Nat), .slice (some ⟨r1, r2, none⟩) n r3] 27)) w3.heap.size #[.int .u64 (l : Nat), .int .u64 (K : Nat), .slice (some ⟨p1, p2, none⟩) n p3] 27 := (Blk.new w3 _ _).alloc _
  generalize ((w3.alloc (.cells #[.int .u64 (l : Nat), .int .u64 (K : Nat), .slice (some ⟨p1, p2, none⟩) n p3] 27)).alloc (.cells #[.int .u64 (l : Nat), .int .u64 (K : Nat), .slice (some ⟨r1, r2, none⟩) n r3] 27)) = W at *
  simp at hBy
  obtain ⟨R, hR⟩ : ∃ R, R = w3.heap.size := ⟨_, rfl⟩
  rw [← hR] at hBx hBy ⊢
  have hc : ∀ W', Below W.heap.size W W' → W'.cell? ⟨R, 0, none⟩ = some (.int .u64 (l : Nat)) ∧ W'.cell? ⟨R, 1, none⟩ = some (.int .u64 (K : Nat)) ∧ W'.cell? ⟨R, 2, none⟩ = some (.slice (some ⟨p1, p2, none⟩) n p3) ∧ W'.cell? ⟨R + 1, 0, none⟩ = some (.int .u64 (l : Nat)) ∧ W'.cell? ⟨R + 1, 1, none⟩ = some (.int .u64 (K : Nat)) ∧ W'.cell? ⟨R + 1, 2, none⟩ = some (.slice (some ⟨r1, r2, none⟩) n r3) := fun W' hb => by
    have h1 : Blk W' _ _ _ := (hb.block _ hBx.lt).trans hBx
    have h2 : Blk W' _ _ _ := (hb.block _ hBy.lt).trans hBy
    exact ⟨h1.cell rfl, h1.cell rfl, h1.cell rfl, h2.cell rfl, h2.cell rfl, h2.cell rfl⟩
  have HC := Lib.hid hc
  have H4 : Hid (Fil W (.agg #[.int .u64 (l : Nat), .int .u64 (K : Nat), .slice (some ⟨p1, p2, none⟩) n p3]) l K n f ∧ Fil W (.agg #[.int .u64 (l : Nat), .int .u64 (K : Nat), .slice (some ⟨r1, r2, none⟩) n r3]) l K n f ∧ Below w.heap.size w W ∧ Data W so2 dn dc s) := by
    have h1 := H3.out.2.2.trans (b0.mono H3.out.2.2.size)
    exact ⟨H3.out.1.same b0, H3.out.2.1.same b0, h1, HD.out.same h1⟩
  obtain ⟨y0, y1, y2, y3, y4, y5⟩ := hc W (Below.refl _ _)
  clear hc b0 hBx hBy hR
  have HEq : Hid (∀ X, Below W.heap.size W X → Calls Try.prog 9 #[.agg #[.int .u64 (l : Nat), .int .u64 (K : Nat), .slice (some ⟨p1, p2, none⟩) n p3], .agg #[.int .u64 (l : Nat), .int .u64 (K : Nat), .slice (some ⟨r1, r2, none⟩) n r3]] X fun e w' => e = .returned (.bool true) ∧ Below X.heap.size X w') := fun X hX => BLEqual_any (H4.out.1.same hX) (H4.out.2.1.same hX) (fun _ _ => rfl) (by omega) (by omega)
  have HDa : Hid (∀ X, Below W.heap.size W X → Calls Try.prog 11 #[.slice so2 dn dc] X fun e w' => e = .returned (.slice so2 (min dn 80) dc) ∧ X = w') := fun X hX => blData_any (H4.out.2.2.2.same hX) hdn
  have hTf : ∀ X, Below W.heap.size W X → Calls Try.prog 10 #[.agg #[.int .u64 (l : Nat), .int .u64 (K : Nat), .slice (some ⟨p1, p2, none⟩) n p3], .slice so2 (min dn 80) dc] X fun e w' => e = .returned (.bool (found f (hashes s (min dn 80)) l K)) ∧ Below X.heap.size X w' := fun X hX => BLTest_any (H4.out.1.same hX) (by omega) (by omega) hK8 (by omega) (by have := HL.out; omega) (H4.out.2.2.2.same hX).cut (by omega)
  have hTg : ∀ X, Below W.heap.size W X → Calls Try.prog 10 #[.agg #[.int .u64 (l : Nat), .int .u64 (K : Nat), .slice (some ⟨r1, r2, none⟩) n r3], .slice so2 (min dn 80) dc] X fun e w' => e = .returned (.bool (found f (hashes s (min dn 80)) l K)) ∧ Below X.heap.size X w' := fun X hX => BLTest_any (H4.out.2.1.same hX) (by omega) (by omega) hK8 (by omega) (by have := HL.out; omega) (H4.out.2.2.2.same hX).cut (by omega)
  obtain ⟨fo, hfo⟩ : ∃ x, x = found f (hashes s (min dn 80)) l K := ⟨_, rfl⟩
  rw [← hfo] at hTf hTg
  have HTf := Lib.hid hTf
  have HTg := Lib.hid hTg
  obtain ⟨dm, hdm⟩ : ∃ x, x = min dn 80 := ⟨_, rfl⟩
  rw [← hdm] at HDa HTf HTg
  have q1 : ((l : Int) == (l : Int)) = true := beq_self_eq_true _
  have q2 : (fo == fo) = true := beq_self_eq_true _
  have q3 : IntKind.u64.wrap (n : Int) = (n : Int) := by simp [IntKind.wrap, IntKind.bits, IntKind.signed]; omega
  have q4 : IntKind.u64.wrap (l : Int) = (l : Int) := by simp [IntKind.wrap, IntKind.bits, IntKind.signed]; omega
  have q5 : ((l : Int) == IntKind.u64.wrap (l : Int)) = true := by rw [q4]; exact beq_self_eq_true _
  clear hTf hTg hfo hdm
  go_region_held3 (fun w' => w'.cell? ⟨R, 0, none⟩ = some (.int .u64 (l : Nat)) ∧ w'.cell? ⟨R, 1, none⟩ = some (.int .u64 (K : Nat)) ∧ w'.cell? ⟨R, 2, none⟩ = some (.slice (some ⟨p1, p2, none⟩) n p3) ∧ w'.cell? ⟨R + 1, 0, none⟩ = some (.int .u64 (l : Nat)) ∧ w'.cell? ⟨R + 1, 1, none⟩ = some (.int .u64 (K : Nat)) ∧ w'.cell? ⟨R + 1, 2, none⟩ = some (.slice (some ⟨r1, r2, none⟩) n r3))
    (first | exact ⟨y0, y1, y2, y3, y4, y5⟩ | exact HC.out _ G5.out | exact HC.out _ G3.out | exact HC.out _ G1.out)
    (first
      | (have := G3; go_at_call 10; refine (HTg.out _ G3.out).mono ?_; rintro e w7 ⟨rfl, hb⟩; have G5 : Hid (Below W.heap.size W w7) := Lib.hid (G3.out.trans (hb.mono G3.out.size)); clear hb)
      | (have := G3; go_at_call 11; refine (HDa.out _ G3.out).mono ?_; rintro e w6 ⟨rfl, rfl⟩)
      | (have := G1; go_at_call 10; refine (HTf.out _ G1.out).mono ?_; rintro e w5 ⟨rfl, hb⟩; have G3 : Hid (Below W.heap.size W w5) := Lib.hid (G1.out.trans (hb.mono G1.out.size)); clear hb)
      | (have := G1; go_at_call 11; refine (HDa.out _ G1.out).mono ?_; rintro e w6 ⟨rfl, rfl⟩)
      | (go_at_call 9; refine (HEq.out _ (Below.refl _ _).drew).mono ?_; rintro e w4 ⟨rfl, hb⟩; have G1 : Hid (Below W.heap.size W w4) := Lib.hid ((Below.refl _ _).drew.trans hb); clear hb))
  go_wp2_with fail
  go_ret
  exact ⟨rfl, H4.out.2.2.1.trans (G5.out.mono H4.out.2.2.1.size)⟩
set_option maxRecDepth 100000 in
set_option maxHeartbeats 4000000 in
theorem walkB {w : World} {so so2 : Option Addr} {n cp dn dc : Nat} {f : Nat → Nat} {s : Nat → UInt8} (hw : Raww w so n cp f) (kk : Nat) (hk : kk < 256) (hd : Data w so2 dn dc s) (hn : n ≤ 2147483647) (hdn : dn ≤ 2147483647) (h2 : 12 < n) :
    Calls Try.prog 3 #[.slice so n cp, .int .u8 kk, .slice so2 dn dc] w fun e w' => e = .returned (.bool true) ∧ Below w.heap.size w w' := by
  have HW := Lib.hid hw
  have HD := Lib.hid hd
  have hncp := hw.1
  have hcast : (kk : Int) % 8 = ((kk % 8 : Nat) : Int) := rfl
  have hx : kk % 8 < 8 := Nat.mod_lt _ (by decide)
  obtain ⟨x, hxe⟩ : ∃ i, i = kk % 8 := ⟨_, rfl⟩
  rw [← hxe] at hcast hx
  obtain ⟨K, hK⟩ : ∃ i, i = x + 1 := ⟨_, rfl⟩
  have hK1 : (1 : Int) + (x : Int) = (K : Int) := by omega
  have hK8 : K ≤ 8 := by omega
  clear hxe hK hw hd
  obtain ⟨l, hl⟩ : ∃ l, l = 64 * 12 := ⟨_, rfl⟩
  have hl1 : (64 : Int) * ((12 : Nat) : Int) = (l : Int) := by omega
  have hl2 : 0 < l ∧ l ≤ 1000 := by omega
  have HL := Lib.hid hl
  obtain ⟨b, o, rfl, hc⟩ := HW.out.2.2 (by omega)
  have i12 : (12 : Int) ≤ (cp : Int) := by omega
  have H1 : Hid (Wds w (.slice (some ⟨b, o, none⟩) 12 cp) 12 f ∧ (∀ i, f i < 18446744073709551616) ∧ Below w.heap.size w w) := ⟨⟨b, o, cp, rfl, by omega, fun i hi => hc i (by omega)⟩, HW.out.2.1, Below.refl _ _⟩
  clear hc hl
  have hl3 : (768 : Int) = (l : Int) := by omega
  go_enter Try.func3, Try.ntmps3
  go_wp2_with fail
  refine (BLFrom_any (l := l) (k := K) H1.out.1 H1.out.2.1 (by omega) (by omega) HL.out).mono ?_
  rintro e w2 ⟨v1, rfl, ⟨sl1, rfl, hf1⟩, hb⟩
  obtain ⟨p1, p2, p3, rfl⟩ := fil_shape hf1
  have H2 : Hid (Fil w2 (.agg #[.int .u64 (l : Nat), .int .u64 (K : Nat), .slice (some ⟨p1, p2, none⟩) 12 p3]) l K 12 f ∧ Below w.heap.size w w2 ∧ Wds w2 _ 12 f) := ⟨hf1, H1.out.2.2.trans (hb.mono H1.out.2.2.size), H1.out.1.same hb⟩
  clear hf1 hb
  go_wp2_with fail
  refine (BLFromWithM_any (m := l) (k := K) H2.out.2.2 H1.out.2.1 (by omega) (by omega)).mono ?_
  rintro e w3 ⟨v2, rfl, ⟨sl2, rfl, hf2⟩, hb⟩
  obtain ⟨r1, r2, r3, rfl⟩ := fil_shape hf2
  have H3 : Hid (Fil w3 (.agg #[.int .u64 (l : Nat), .int .u64 (K : Nat), .slice (some ⟨p1, p2, none⟩) 12 p3]) l K 12 f ∧ Fil w3 (.agg #[.int .u64 (l : Nat), .int .u64 (K : Nat), .slice (some ⟨r1, r2, none⟩) 12 r3]) l K 12 f ∧ Below w.heap.size w w3) := ⟨H2.out.1.same hb, hf2, H2.out.2.1.trans (hb.mono H2.out.2.1.size)⟩
  clear hf2 hb
  go_wp2_with fail
  have b0 : Below w3.heap.size w3 ((w3.alloc (.cells #[.int .u64 (l : Nat), .int .u64 (K : Nat), .slice (some ⟨p1, p2, none⟩) 12 p3] 27)).alloc (.cells #[.int .u64 (l : Nat), .int .u64 (K : Nat), .slice (some ⟨r1, r2, none⟩) 12 r3] 27)) := ((Below.refl _ _).alloc (Nat.le_refl _) _).alloc (by simp) _
  have hBy := Blk.new (w3.alloc (.cells #[.int .u64 (l : Nat), .int .u64 (K : Nat), .slice (some ⟨p1, p2, none⟩) 12 p3] 27)) #[.int .u64 (l : Nat), .int .u64 (K : Nat), .slice (some ⟨r1, r2, none⟩) 12 r3] 27
  have hBx : Blk ((w3.alloc (.cells #[.int .u64 (l : Nat), .int .u64 (K : Nat), .slice (some ⟨p1, p2, none⟩) 12 p3] 27)).alloc (.cells #[.int .u64 (l : Nat), .int .u64 (K : Nat), .slice (some ⟨r1, r2, none⟩) 12 r3] 27)) w3.heap.size #[.int .u64 (l : Nat), .int .u64 (K : Nat), .slice (some ⟨p1, p2, none⟩) 12 p3] 27 := (Blk.new w3 _ _).alloc _
  generalize ((w3.alloc (.cells #[.int .u64 (l : Nat), .int .u64 (K : Nat), .slice (some ⟨p1, p2, none⟩) 12 p3] 27)).alloc (.cells #[.int .u64 (l : Nat), .int .u64 (K : Nat), .slice (some ⟨r1, r2, none⟩) 12 r3] 27)) = W at *
  simp at hBy
  obtain ⟨R, hR⟩ : ∃ R, R = w3.heap.size := ⟨_, rfl⟩
  rw [← hR] at hBx hBy ⊢
  have hc : ∀ W', Below W.heap.size W W' → W'.cell? ⟨R, 0, none⟩ = some (.int .u64 (l : Nat)) ∧ W'.cell? ⟨R, 1, none⟩ = some (.int .u64 (K : Nat)) ∧ W'.cell? ⟨R, 2, none⟩ = some (.slice (some ⟨p1, p2, none⟩) 12 p3) ∧ W'.cell? ⟨R + 1, 0, none⟩ = some (.int .u64 (l : Nat)) ∧ W'.cell? ⟨R + 1, 1, none⟩ = some (.int .u64 (K : Nat)) ∧ W'.cell? ⟨R + 1, 2, none⟩ = some (.slice (some ⟨r1, r2, none⟩) 12 r3) := fun W' hb => by
    have h1 : Blk W' _ _ _ := (hb.block _ hBx.lt).trans hBx
    have h2 : Blk W' _ _ _ := (hb.block _ hBy.lt).trans hBy
    exact ⟨h1.cell rfl, h1.cell rfl, h1.cell rfl, h2.cell rfl, h2.cell rfl, h2.cell rfl⟩
  have HC := Lib.hid hc
  have H4 : Hid (Fil W (.agg #[.int .u64 (l : Nat), .int .u64 (K : Nat), .slice (some ⟨p1, p2, none⟩) 12 p3]) l K 12 f ∧ Fil W (.agg #[.int .u64 (l : Nat), .int .u64 (K : Nat), .slice (some ⟨r1, r2, none⟩) 12 r3]) l K 12 f ∧ Below w.heap.size w W ∧ Data W so2 dn dc s) := by
    have h1 := H3.out.2.2.trans (b0.mono H3.out.2.2.size)
    exact ⟨H3.out.1.same b0, H3.out.2.1.same b0, h1, HD.out.same h1⟩
  obtain ⟨y0, y1, y2, y3, y4, y5⟩ := hc W (Below.refl _ _)
  clear hc b0 hBx hBy hR
  have HEq : Hid (∀ X, Below W.heap.size W X → Calls Try.prog 9 #[.agg #[.int .u64 (l : Nat), .int .u64 (K : Nat), .slice (some ⟨p1, p2, none⟩) 12 p3], .agg #[.int .u64 (l : Nat), .int .u64 (K : Nat), .slice (some ⟨r1, r2, none⟩) 12 r3]] X fun e w' => e = .returned (.bool true) ∧ Below X.heap.size X w') := fun X hX => BLEqual_any (H4.out.1.same hX) (H4.out.2.1.same hX) (fun _ _ => rfl) (by omega) (by omega)
  have HDa : Hid (∀ X, Below W.heap.size W X → Calls Try.prog 11 #[.slice so2 dn dc] X fun e w' => e = .returned (.slice so2 (min dn 80) dc) ∧ X = w') := fun X hX => blData_any (H4.out.2.2.2.same hX) hdn
  have hTf : ∀ X, Below W.heap.size W X → Calls Try.prog 10 #[.agg #[.int .u64 (l : Nat), .int .u64 (K : Nat), .slice (some ⟨p1, p2, none⟩) 12 p3], .slice so2 (min dn 80) dc] X fun e w' => e = .returned (.bool (found f (hashes s (min dn 80)) l K)) ∧ Below X.heap.size X w' := fun X hX => BLTest_any (H4.out.1.same hX) (by omega) (by omega) hK8 (by omega) (by have := HL.out; omega) (H4.out.2.2.2.same hX).cut (by omega)
  have hTg : ∀ X, Below W.heap.size W X → Calls Try.prog 10 #[.agg #[.int .u64 (l : Nat), .int .u64 (K : Nat), .slice (some ⟨r1, r2, none⟩) 12 r3], .slice so2 (min dn 80) dc] X fun e w' => e = .returned (.bool (found f (hashes s (min dn 80)) l K)) ∧ Below X.heap.size X w' := fun X hX => BLTest_any (H4.out.2.1.same hX) (by omega) (by omega) hK8 (by omega) (by have := HL.out; omega) (H4.out.2.2.2.same hX).cut (by omega)
  obtain ⟨fo, hfo⟩ : ∃ x, x = found f (hashes s (min dn 80)) l K := ⟨_, rfl⟩
  rw [← hfo] at hTf hTg
  have HTf := Lib.hid hTf
  have HTg := Lib.hid hTg
  obtain ⟨dm, hdm⟩ : ∃ x, x = min dn 80 := ⟨_, rfl⟩
  rw [← hdm] at HDa HTf HTg
  have q1 : ((l : Int) == (l : Int)) = true := beq_self_eq_true _
  have q2 : (fo == fo) = true := beq_self_eq_true _
  have q4 : IntKind.u64.wrap (l : Int) = (l : Int) := by simp [IntKind.wrap, IntKind.bits, IntKind.signed]; omega
  have q5 : ((l : Int) == IntKind.u64.wrap (l : Int)) = true := by rw [q4]; exact beq_self_eq_true _
  have q6 : ((l : Int) == 768) = true := by rw [← hl3]; rfl
  have q3 : IntKind.u64.wrap 12 = 12 := by simp [IntKind.wrap, IntKind.bits, IntKind.signed]
  clear hTf hTg hfo hdm
  go_region_held3 (fun w' => w'.cell? ⟨R, 0, none⟩ = some (.int .u64 (l : Nat)) ∧ w'.cell? ⟨R, 1, none⟩ = some (.int .u64 (K : Nat)) ∧ w'.cell? ⟨R, 2, none⟩ = some (.slice (some ⟨p1, p2, none⟩) 12 p3) ∧ w'.cell? ⟨R + 1, 0, none⟩ = some (.int .u64 (l : Nat)) ∧ w'.cell? ⟨R + 1, 1, none⟩ = some (.int .u64 (K : Nat)) ∧ w'.cell? ⟨R + 1, 2, none⟩ = some (.slice (some ⟨r1, r2, none⟩) 12 r3))
    (first | exact ⟨y0, y1, y2, y3, y4, y5⟩ | exact HC.out _ G5.out | exact HC.out _ G3.out | exact HC.out _ G1.out)
    (first
      | (have := G3; go_at_call 10; refine (HTg.out _ G3.out).mono ?_; rintro e w7 ⟨rfl, hb⟩; have G5 : Hid (Below W.heap.size W w7) := Lib.hid (G3.out.trans (hb.mono G3.out.size)); clear hb)
      | (have := G3; go_at_call 11; refine (HDa.out _ G3.out).mono ?_; rintro e w6 ⟨rfl, rfl⟩)
      | (have := G1; go_at_call 10; refine (HTf.out _ G1.out).mono ?_; rintro e w5 ⟨rfl, hb⟩; have G3 : Hid (Below W.heap.size W w5) := Lib.hid (G1.out.trans (hb.mono G1.out.size)); clear hb)
      | (have := G1; go_at_call 11; refine (HDa.out _ G1.out).mono ?_; rintro e w6 ⟨rfl, rfl⟩)
      | (go_at_call 9; refine (HEq.out _ (Below.refl _ _).drew).mono ?_; rintro e w4 ⟨rfl, hb⟩; have G1 : Hid (Below W.heap.size W w4) := Lib.hid ((Below.refl _ _).drew.trans hb); clear hb))
  go_wp2_with fail
  go_ret
  exact ⟨rfl, H4.out.2.2.1.trans (G5.out.mono H4.out.2.2.1.size)⟩
set_option maxRecDepth 100000 in
set_option maxHeartbeats 4000000 in
theorem walkC {w : World} {so so2 : Option Addr} {n cp dn dc : Nat} {f : Nat → Nat} {s : Nat → UInt8} (hw : Raww w so n cp f) (kk : Nat) (hk : kk < 256) (hd : Data w so2 dn dc s) (hn : n ≤ 2147483647) (hdn : dn ≤ 2147483647) (h1 : n = 0) :
    Calls Try.prog 3 #[.slice so n cp, .int .u8 kk, .slice so2 dn dc] w fun e w' => e = .returned (.bool true) ∧ Below w.heap.size w w' := by
  have HW := Lib.hid hw
  have HD := Lib.hid hd
  have hncp := hw.1
  have hcast : (kk : Int) % 8 = ((kk % 8 : Nat) : Int) := rfl
  have hx : kk % 8 < 8 := Nat.mod_lt _ (by decide)
  obtain ⟨x, hxe⟩ : ∃ i, i = kk % 8 := ⟨_, rfl⟩
  rw [← hxe] at hcast hx
  obtain ⟨K, hK⟩ : ∃ i, i = x + 1 := ⟨_, rfl⟩
  have hK1 : (1 : Int) + (x : Int) = (K : Int) := by omega
  have hK8 : K ≤ 8 := by omega
  clear hxe hK hw hd
  obtain ⟨l, hl⟩ : ∃ l, l = 64 * 1 := ⟨_, rfl⟩
  have hl1 : (64 : Int) * ((1 : Nat) : Int) = (l : Int) := by omega
  have hl2 : 0 < l ∧ l ≤ 1000 := by omega
  have HL := Lib.hid hl
  subst h1
  have H1 : Hid (Wds (w.alloc (.cells #[.int .u64 0] 25)) (.slice (some ⟨w.heap.size, 0, none⟩) 1 1) 1 (fun _ => 0) ∧ (∀ i : Nat, ((fun _ => 0) i : Nat) < 18446744073709551616) ∧ Below w.heap.size w (w.alloc (.cells #[.int .u64 0] 25))) := by
    refine ⟨⟨w.heap.size, 0, 1, rfl, Nat.le_refl _, fun i hi => ?_⟩, fun i => by simp, (Below.refl _ _).alloc (Nat.le_refl _) _⟩
    obtain rfl : i = 0 := by omega
    exact (Blk.new w _ _).cell rfl
  clear hl
  have hl3 : (64 : Int) = (l : Int) := by omega
  go_enter Try.func3, Try.ntmps3
  go_wp2_with fail
  generalize (w.alloc (.cells #[.int .u64 0] 25)) = w1 at H1 ⊢
  refine (BLFrom_any (l := l) (k := K) H1.out.1 H1.out.2.1 (by omega) (by omega) HL.out).mono ?_
  rintro e w2 ⟨v1, rfl, ⟨sl1, rfl, hf1⟩, hb⟩
  obtain ⟨p1, p2, p3, rfl⟩ := fil_shape hf1
  have H2 : Hid (Fil w2 (.agg #[.int .u64 (l : Nat), .int .u64 (K : Nat), .slice (some ⟨p1, p2, none⟩) 1 p3]) l K 1 (fun _ => 0) ∧ Below w.heap.size w w2 ∧ Wds w2 _ 1 (fun _ => 0)) := ⟨hf1, H1.out.2.2.trans (hb.mono H1.out.2.2.size), H1.out.1.same hb⟩
  clear hf1 hb
  go_wp2_with fail
  refine (BLFromWithM_any (m := l) (k := K) H2.out.2.2 H1.out.2.1 (by omega) (by omega)).mono ?_
  rintro e w3 ⟨v2, rfl, ⟨sl2, rfl, hf2⟩, hb⟩
  obtain ⟨r1, r2, r3, rfl⟩ := fil_shape hf2
  have H3 : Hid (Fil w3 (.agg #[.int .u64 (l : Nat), .int .u64 (K : Nat), .slice (some ⟨p1, p2, none⟩) 1 p3]) l K 1 (fun _ => 0) ∧ Fil w3 (.agg #[.int .u64 (l : Nat), .int .u64 (K : Nat), .slice (some ⟨r1, r2, none⟩) 1 r3]) l K 1 (fun _ => 0) ∧ Below w.heap.size w w3) := ⟨H2.out.1.same hb, hf2, H2.out.2.1.trans (hb.mono H2.out.2.1.size)⟩
  clear hf2 hb
  go_wp2_with fail
  have b0 : Below w3.heap.size w3 ((w3.alloc (.cells #[.int .u64 (l : Nat), .int .u64 (K : Nat), .slice (some ⟨p1, p2, none⟩) 1 p3] 27)).alloc (.cells #[.int .u64 (l : Nat), .int .u64 (K : Nat), .slice (some ⟨r1, r2, none⟩) 1 r3] 27)) := ((Below.refl _ _).alloc (Nat.le_refl _) _).alloc (by simp) _
  have hBy := Blk.new (w3.alloc (.cells #[.int .u64 (l : Nat), .int .u64 (K : Nat), .slice (some ⟨p1, p2, none⟩) 1 p3] 27)) #[.int .u64 (l : Nat), .int .u64 (K : Nat), .slice (some ⟨r1, r2, none⟩) 1 r3] 27
  have hBx : Blk ((w3.alloc (.cells #[.int .u64 (l : Nat), .int .u64 (K : Nat), .slice (some ⟨p1, p2, none⟩) 1 p3] 27)).alloc (.cells #[.int .u64 (l : Nat), .int .u64 (K : Nat), .slice (some ⟨r1, r2, none⟩) 1 r3] 27)) w3.heap.size #[.int .u64 (l : Nat), .int .u64 (K : Nat), .slice (some ⟨p1, p2, none⟩) 1 p3] 27 := (Blk.new w3 _ _).alloc _
  generalize ((w3.alloc (.cells #[.int .u64 (l : Nat), .int .u64 (K : Nat), .slice (some ⟨p1, p2, none⟩) 1 p3] 27)).alloc (.cells #[.int .u64 (l : Nat), .int .u64 (K : Nat), .slice (some ⟨r1, r2, none⟩) 1 r3] 27)) = W at *
  simp at hBy
  obtain ⟨R, hR⟩ : ∃ R, R = w3.heap.size := ⟨_, rfl⟩
  rw [← hR] at hBx hBy ⊢
  have hc : ∀ W', Below W.heap.size W W' → W'.cell? ⟨R, 0, none⟩ = some (.int .u64 (l : Nat)) ∧ W'.cell? ⟨R, 1, none⟩ = some (.int .u64 (K : Nat)) ∧ W'.cell? ⟨R, 2, none⟩ = some (.slice (some ⟨p1, p2, none⟩) 1 p3) ∧ W'.cell? ⟨R + 1, 0, none⟩ = some (.int .u64 (l : Nat)) ∧ W'.cell? ⟨R + 1, 1, none⟩ = some (.int .u64 (K : Nat)) ∧ W'.cell? ⟨R + 1, 2, none⟩ = some (.slice (some ⟨r1, r2, none⟩) 1 r3) := fun W' hb => by
    have h1 : Blk W' _ _ _ := (hb.block _ hBx.lt).trans hBx
    have h2 : Blk W' _ _ _ := (hb.block _ hBy.lt).trans hBy
    exact ⟨h1.cell rfl, h1.cell rfl, h1.cell rfl, h2.cell rfl, h2.cell rfl, h2.cell rfl⟩
  have HC := Lib.hid hc
  have H4 : Hid (Fil W (.agg #[.int .u64 (l : Nat), .int .u64 (K : Nat), .slice (some ⟨p1, p2, none⟩) 1 p3]) l K 1 (fun _ => 0) ∧ Fil W (.agg #[.int .u64 (l : Nat), .int .u64 (K : Nat), .slice (some ⟨r1, r2, none⟩) 1 r3]) l K 1 (fun _ => 0) ∧ Below w.heap.size w W ∧ Data W so2 dn dc s) := by
    have h1 := H3.out.2.2.trans (b0.mono H3.out.2.2.size)
    exact ⟨H3.out.1.same b0, H3.out.2.1.same b0, h1, HD.out.same h1⟩
  obtain ⟨y0, y1, y2, y3, y4, y5⟩ := hc W (Below.refl _ _)
  clear hc b0 hBx hBy hR
  have HEq : Hid (∀ X, Below W.heap.size W X → Calls Try.prog 9 #[.agg #[.int .u64 (l : Nat), .int .u64 (K : Nat), .slice (some ⟨p1, p2, none⟩) 1 p3], .agg #[.int .u64 (l : Nat), .int .u64 (K : Nat), .slice (some ⟨r1, r2, none⟩) 1 r3]] X fun e w' => e = .returned (.bool true) ∧ Below X.heap.size X w') := fun X hX => BLEqual_any (H4.out.1.same hX) (H4.out.2.1.same hX) (fun _ _ => rfl) (by omega) (by omega)
  have HDa : Hid (∀ X, Below W.heap.size W X → Calls Try.prog 11 #[.slice so2 dn dc] X fun e w' => e = .returned (.slice so2 (min dn 80) dc) ∧ X = w') := fun X hX => blData_any (H4.out.2.2.2.same hX) hdn
  have hTf : ∀ X, Below W.heap.size W X → Calls Try.prog 10 #[.agg #[.int .u64 (l : Nat), .int .u64 (K : Nat), .slice (some ⟨p1, p2, none⟩) 1 p3], .slice so2 (min dn 80) dc] X fun e w' => e = .returned (.bool (found (fun _ => 0) (hashes s (min dn 80)) l K)) ∧ Below X.heap.size X w' := fun X hX => BLTest_any (H4.out.1.same hX) (by omega) (by omega) hK8 (by omega) (by have := HL.out; omega) (H4.out.2.2.2.same hX).cut (by omega)
  have hTg : ∀ X, Below W.heap.size W X → Calls Try.prog 10 #[.agg #[.int .u64 (l : Nat), .int .u64 (K : Nat), .slice (some ⟨r1, r2, none⟩) 1 r3], .slice so2 (min dn 80) dc] X fun e w' => e = .returned (.bool (found (fun _ => 0) (hashes s (min dn 80)) l K)) ∧ Below X.heap.size X w' := fun X hX => BLTest_any (H4.out.2.1.same hX) (by omega) (by omega) hK8 (by omega) (by have := HL.out; omega) (H4.out.2.2.2.same hX).cut (by omega)
  obtain ⟨fo, hfo⟩ : ∃ x, x = found (fun _ => 0) (hashes s (min dn 80)) l K := ⟨_, rfl⟩
  rw [← hfo] at hTf hTg
  have HTf := Lib.hid hTf
  have HTg := Lib.hid hTg
  obtain ⟨dm, hdm⟩ : ∃ x, x = min dn 80 := ⟨_, rfl⟩
  rw [← hdm] at HDa HTf HTg
  have q1 : ((l : Int) == (l : Int)) = true := beq_self_eq_true _
  have q2 : (fo == fo) = true := beq_self_eq_true _
  have q4 : IntKind.u64.wrap (l : Int) = (l : Int) := by simp [IntKind.wrap, IntKind.bits, IntKind.signed]; omega
  have q5 : ((l : Int) == IntKind.u64.wrap (l : Int)) = true := by rw [q4]; exact beq_self_eq_true _
  have q6 : ((l : Int) == 64) = true := by rw [← hl3]; rfl
  have q3 : IntKind.u64.wrap 1 = 1 := by simp [IntKind.wrap, IntKind.bits, IntKind.signed]
  clear hTf hTg hfo hdm
  go_region_held3 (fun w' => w'.cell? ⟨R, 0, none⟩ = some (.int .u64 (l : Nat)) ∧ w'.cell? ⟨R, 1, none⟩ = some (.int .u64 (K : Nat)) ∧ w'.cell? ⟨R, 2, none⟩ = some (.slice (some ⟨p1, p2, none⟩) 1 p3) ∧ w'.cell? ⟨R + 1, 0, none⟩ = some (.int .u64 (l : Nat)) ∧ w'.cell? ⟨R + 1, 1, none⟩ = some (.int .u64 (K : Nat)) ∧ w'.cell? ⟨R + 1, 2, none⟩ = some (.slice (some ⟨r1, r2, none⟩) 1 r3))
    (first | exact ⟨y0, y1, y2, y3, y4, y5⟩ | exact HC.out _ G5.out | exact HC.out _ G3.out | exact HC.out _ G1.out)
    (first
      | (have := G3; go_at_call 10; refine (HTg.out _ G3.out).mono ?_; rintro e w7 ⟨rfl, hb⟩; have G5 : Hid (Below W.heap.size W w7) := Lib.hid (G3.out.trans (hb.mono G3.out.size)); clear hb)
      | (have := G3; go_at_call 11; refine (HDa.out _ G3.out).mono ?_; rintro e w6 ⟨rfl, rfl⟩)
      | (have := G1; go_at_call 10; refine (HTf.out _ G1.out).mono ?_; rintro e w5 ⟨rfl, hb⟩; have G3 : Hid (Below W.heap.size W w5) := Lib.hid (G1.out.trans (hb.mono G1.out.size)); clear hb)
      | (have := G1; go_at_call 11; refine (HDa.out _ G1.out).mono ?_; rintro e w6 ⟨rfl, rfl⟩)
      | (go_at_call 9; refine (HEq.out _ (Below.refl _ _).drew).mono ?_; rintro e w4 ⟨rfl, hb⟩; have G1 : Hid (Below W.heap.size W w4) := Lib.hid ((Below.refl _ _).drew.trans hb); clear hb))
  go_wp2_with fail
  go_ret
  exact ⟨rfl, H4.out.2.2.1.trans (G5.out.mono H4.out.2.2.1.size)⟩
set_option maxRecDepth 100000 in
theorem walk {w : World} {so so2 : Option Addr} {n cp dn dc : Nat} {f : Nat → Nat} {s : Nat → UInt8} (hw : Raww w so n cp f) (kk : Nat) (hk : kk < 256) (hd : Data w so2 dn dc s) :
    Calls Try.prog 3 #[.slice so n cp, .int .u8 kk, .slice so2 dn dc] w fun e w' => e = .returned (.bool true) ∧ Below w.heap.size w w' := by
  by_cases hn : n ≤ 2147483647
  · by_cases hdn : dn ≤ 2147483647
    · by_cases h1 : n = 0
      · exact walkC hw kk hk hd hn hdn h1
      · by_cases h2 : n ≤ 12
        · exact walkA hw kk hk hd hn hdn (by omega) h2
        · exact walkB hw kk hk hd hn hdn (by omega)
    · clear hw hd
      go_enter Try.func3, Try.ntmps3
      go_wp2_with fail
      go_ret
      exact ⟨rfl, Below.refl _ _⟩
  · clear hw hd
    go_enter Try.func3, Try.ntmps3
    go_wp2_with fail
    go_ret
    exact ⟨rfl, Below.refl _ _⟩

theorem own : ownKnob Try.prog.godebug = none := by kernel_rfl
theorem laidOut : laidOutB Try.prog = true := by kernel_rfl

set_option maxRecDepth 100000 in
theorem lifted (os : Os) (started : os.Started) (H : Type) (enc : TypeId × Value → H) :
    ReturnsInHanded {} Try.checked os 3 .any (Rows.fnBLDeepFromSpec.pre6 enc Try.prog Try.f3 Rows.fnBLDeepFromRow.domain false) (Rows.fnBLDeepFromSpec.post enc Try.prog Try.f3 false true false false) := by
  refine LawKit.lifted (C := Try.checked) (T := 4) own started (by kernel_rfl) Try.func3 laidOut (by kernel_rfl) (by kernel_rfl) Try.underlying4 rfl ?_
    (ChangeSpec.witness6 (enc := enc) (C := Try.checked) false ⟨#[], #[.slice none 0 0, .int .u8 0, .slice none 0 0], []⟩ 8 (by kernel_rfl) (by kernel_rfl) (by kernel_rfl) (by kernel_rfl)) ?_
  · intro ds hd
    match ds, hd with
    | [_, _, _], _ => rfl
  · intro W base args ds p hval0 hA0 _
    have hval : ∀ (j : Nat) t v, Try.f3.params[j]? = some t → args[j]? = some v → Value.okWide Try.prog W .any base t v := hval0
    have hA : DataW.TrodAll enc Try.prog W 0 (fun _ => true) true Try.f3.params.toList args.toList ds p := hA0
    rw [Try.params3] at hA hval
    obtain ⟨v0, vs0, d0, ds0, p0, q0, hargs, rfl, rfl, h0, r0⟩ := trodAll_cons hA
    obtain ⟨v1, vs1, d1, ds1, p1, q1, rfl, rfl, rfl, h1, r1⟩ := trodAll_cons r0
    obtain ⟨v2, vs2, d2, ds2, p2, q2, rfl, rfl, rfl, h2, r2⟩ := trodAll_cons r1
    obtain ⟨rfl, rfl, rfl⟩ := trodAll_nil r2
    obtain rfl : args = #[v0, v1, v2] := by cases args; simp_all
    obtain ⟨so0, n0, cp0, rfl⟩ := okWide_slice Try.underlying22 (hval 0 22 v0 rfl rfl)
    obtain ⟨fu0, hf0⟩ := h0
    obtain ⟨so0', n0', cp0', f0, hv0, hr0⟩ := open_raww hf0
    simp only [Value.slice.injEq] at hv0
    obtain ⟨rfl, rfl, rfl⟩ := hv0
    obtain ⟨a1, rfl, rfl, rfl, w1⟩ := open_int Try.underlying5 (hval 1 5 v1 rfl rfl) h1
    have b1 := bounds_u8 w1
    obtain ⟨i1, rfl⟩ : ∃ i : Nat, a1 = (i : Int) := ⟨a1.toNat, by omega⟩
    obtain ⟨so2, n2, cp2, rfl⟩ := okWide_slice Try.underlying23 (hval 2 23 v2 rfl rfl)
    obtain ⟨fu2, hf2⟩ := h2
    obtain ⟨so2', n2', cp2', s2, hv2, hr2⟩ := open_data hf2
    simp only [Value.slice.injEq] at hv2
    obtain ⟨rfl, rfl, rfl⟩ := hv2
    exact walk hr0 i1 (by omega) hr2

theorem proved : Rows.FnBLDeepFromSaid :=
  OpenClaim.holds_of_wide 3 Try.f3 rfl rfl rfl rfl rfl rfl rfl ⟨rfl, rfl, rfl, rfl, rfl⟩ rfl rfl rfl rfl rfl (by kernel_rfl) Try.func3 (by kernel_rfl)
    (of_decide_eq_true (by kernel_rfl)) (by unfold Func.isWrapper; first | (rw [if_pos (by decide +kernel)]; kernel_rfl) | (rw [if_neg (by decide +kernel)]; exact ⟨rfl, rfl⟩))
    (fun os started H enc _ => lifted os started H enc)
#print axioms proved
end Go.Proofs.Ytbkodehcjhpcmaa.LFrom
