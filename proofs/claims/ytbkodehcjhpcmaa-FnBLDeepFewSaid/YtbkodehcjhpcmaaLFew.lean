/- FnBLDeepFew answers true for every filter and all data. -/
import Derived.Test.YtbkodehcjhpcmaaL18
import Derived.Test.YtbkodehcjhpcmaaL19
import Derived.Test.YtbkodehcjhpcmaaLawKit
namespace Go.Proofs.Ytbkodehcjhpcmaa.LFew
open Go.RowKit Go.ChangeShapes Go.WideShapes Go.ChangeAt Go.Deep

theorem run_words (M K x y N z : Nat) (w : World) : (Instr.field 27 (.agg #[.int .u64 (M : Nat), .int .u64 (K : Nat), .slice (some ⟨x, y, none⟩) N z]) 2).run Try.prog w = .ok (.slice (some ⟨x, y, none⟩) N z) w := by kernel_rfl

set_option maxRecDepth 100000 in
set_option maxHeartbeats 8000000 in
theorem walkA {w : World} {so so3 : Option Addr} {n cp dn dc : Nat} {f0 : Nat → Nat} {s : Nat → UInt8} (hw : Raww w so n cp f0) (m kk : Nat) (hm : m < 65536) (hk : kk < 256) (hd : Data w so3 dn dc s) (hn : n ≤ 2147483647) (hdn : dn ≤ 2147483647) :
    Calls Try.prog 6 #[.int .u16 m, .int .u8 kk, .slice so n cp, .slice so3 dn dc] w fun e w' => e = .returned (.bool true) ∧ Below w.heap.size w w' := by
  have HBF := Lib.hid (blFilter_any hw m kk hm hk hn)
  have HD := Lib.hid hd
  obtain ⟨M, hM⟩ : ∃ M, M = m % 700 + 1 := ⟨_, rfl⟩
  obtain ⟨K, hK⟩ : ∃ K, K = kk % 8 + 1 := ⟨_, rfl⟩
  obtain ⟨N, hN⟩ : ∃ N, N = (m % 700 + 64) / 64 := ⟨_, rfl⟩
  have hM0 : 0 < M := by omega
  have hK8 : K ≤ 8 := by omega
  have hN0 : 0 < N := by omega
  have hN1 : N ≤ 1000 := by omega
  have hMN : M ≤ 64 * N := by omega
  have hK0 : 0 < K := by omega
  have HK0 := Lib.hid hK0
  clear hK0
  rw [← hM, ← hK, ← hN] at HBF
  obtain ⟨dm, hdm⟩ : ∃ x, x = min dn 80 := ⟨_, rfl⟩
  have hd80 : dm ≤ 80 := by omega
  have HDM := Lib.hid hdm
  obtain ⟨h, hh⟩ : ∃ h, h = hashes s dm := ⟨_, rfl⟩
  have HH := Lib.hid hh
  have HP : Hid (0 < M ∧ K ≤ 8 ∧ 0 < N ∧ N ≤ 1000 ∧ M ≤ 64 * N ∧ dm ≤ 80) := ⟨hM0, hK8, hN0, hN1, hMN, hd80⟩
  clear hM hK hN hw hd hdm hh hMN
  go_enter Try.func6, Try.ntmps6
  go_wp2_with fail
  refine HBF.out.mono ?_
  rintro e w1 ⟨v0, g, rfl, hf0, hb⟩
  have H0a : Hid (Below w.heap.size w w1) := hb
  obtain ⟨sl0, rfl, ⟨x0, y0, z0, rfl, hwd0⟩, hs0⟩ := hf0
  have H0f : Hid (Fil w1 (.agg #[.int .u64 (M : Nat), .int .u64 (K : Nat), .slice (some ⟨x0, y0, none⟩) N z0]) M K N g) := ⟨_, rfl, ⟨x0, y0, z0, rfl, hwd0⟩, hs0⟩
  clear hb hwd0 hs0
  go_wp2_with fail
  refine (blData_any (HD.out.same H0a.out) hdn).mono ?_
  rintro e w1' ⟨rfl, rfl⟩
  rw [← HDM.out]
  obtain ⟨b0, hb0⟩ : ∃ b, b = w1.heap.size := ⟨_, rfl⟩
  have H1 : Hid (Fil (w1.alloc (.cells #[.int .u64 (M : Nat), .int .u64 (K : Nat), .slice (some ⟨x0, y0, none⟩) N z0] 27)) (.agg #[.int .u64 (M : Nat), .int .u64 (K : Nat), .slice (some ⟨x0, y0, none⟩) N z0]) M K N g ∧ Blk (w1.alloc (.cells #[.int .u64 (M : Nat), .int .u64 (K : Nat), .slice (some ⟨x0, y0, none⟩) N z0] 27)) b0 #[.int .u64 (M : Nat), .int .u64 (K : Nat), .slice (some ⟨x0, y0, none⟩) N z0] 27 ∧ Data (w1.alloc (.cells #[.int .u64 (M : Nat), .int .u64 (K : Nat), .slice (some ⟨x0, y0, none⟩) N z0] 27)) so3 dm dc s ∧ Below w.heap.size w (w1.alloc (.cells #[.int .u64 (M : Nat), .int .u64 (K : Nat), .slice (some ⟨x0, y0, none⟩) N z0] 27))) := by
    have hal : Below w1.heap.size w1 (w1.alloc (.cells #[.int .u64 (M : Nat), .int .u64 (K : Nat), .slice (some ⟨x0, y0, none⟩) N z0] 27)) := (Below.refl _ _).alloc (Nat.le_refl _) _
    have hbl := H0a.out.trans (hal.mono H0a.out.size)
    have hdt := (HD.out.same hbl).cut
    rw [← HDM.out] at hdt
    exact ⟨H0f.out.same hal, by rw [hb0]; exact Blk.new w1 _ _, hdt, hbl⟩
  go_wp2_with fail
  rw [← hb0]
  generalize (w1.alloc (.cells #[.int .u64 (M : Nat), .int .u64 (K : Nat), .slice (some ⟨x0, y0, none⟩) N z0] 27)) = W0 at H1 ⊢
  clear hb0
  have hc : ∀ X, Below W0.heap.size W0 X → X.cell? ⟨b0, 0, none⟩ = some (.int .u64 (M : Nat)) ∧ X.cell? ⟨b0, 1, none⟩ = some (.int .u64 (K : Nat)) ∧ X.cell? ⟨b0, 2, none⟩ = some (.slice (some ⟨x0, y0, none⟩) N z0) := fun X hX => by
    have h0 : Blk X _ _ _ := (hX.block _ H1.out.2.1.lt).trans H1.out.2.1
    exact ⟨h0.cell rfl, h0.cell rfl, h0.cell rfl⟩
  have HC := Lib.hid hc
  have hA : ∀ X, Below W0.heap.size W0 X → Calls Try.prog 15 #[.agg #[.int .u64 (M : Nat), .int .u64 (K : Nat), .slice (some ⟨x0, y0, none⟩) N z0], .slice so3 dm dc] X fun e w' => (∃ x5 y5 z5, e = .returned (.agg #[.int .u64 (M : Nat), .int .u64 (K : Nat), .slice (some ⟨x5, y5, none⟩) N z5]) ∧ Fil w' (.agg #[.int .u64 (M : Nat), .int .u64 (K : Nat), .slice (some ⟨x5, y5, none⟩) N z5]) M K N (adds g h M K)) ∧ Below W0.heap.size W0 w' := fun X hX => by
    have := BLAdd_any (H1.out.1.same hX) HP.out.2.2.1 HP.out.2.2.2.1 HP.out.2.1 HP.out.1 HP.out.2.2.2.2.1 (H1.out.2.2.1.same hX) HP.out.2.2.2.2.2
    rw [← HH.out] at this
    refine this.mono ?_
    rintro e w' ⟨⟨v, rfl, hf⟩, hb⟩
    obtain ⟨sl, rfl, ⟨x5, y5, z5, rfl, hwd⟩, hsm⟩ := hf
    exact ⟨⟨x5, y5, z5, rfl, ⟨_, rfl, ⟨x5, y5, z5, rfl, hwd⟩, hsm⟩⟩, hX.trans (hb.mono hX.size)⟩
  have hT : ∀ X, Below W0.heap.size W0 X → Calls Try.prog 10 #[.agg #[.int .u64 (M : Nat), .int .u64 (K : Nat), .slice (some ⟨x0, y0, none⟩) N z0], .slice so3 dm dc] X fun e w' => e = .returned (.bool (found g h M K)) ∧ Below W0.heap.size W0 w' := fun X hX => by
    have := BLTest_any (H1.out.1.same hX) HP.out.2.2.1 HP.out.2.2.2.1 HP.out.2.1 HP.out.1 HP.out.2.2.2.2.1 (H1.out.2.2.1.same hX) HP.out.2.2.2.2.2
    rw [← HH.out] at this
    refine this.mono ?_
    rintro e w' ⟨rfl, hb⟩
    exact ⟨rfl, hX.trans (hb.mono hX.size)⟩
  obtain ⟨L64, hL64⟩ : ∃ L, L = 64 * N := ⟨_, rfl⟩
  have hF0 : ∀ X, Below W0.heap.size W0 X → Calls Try.prog 18 #[.slice (some ⟨x0, y0, none⟩) N z0] X fun e w' => (∃ so5 m5 c5, e = .returned (.agg #[.int .u64 (L64 : Nat), .slice so5 m5 c5]) ∧ Q.IsBits w' (.agg #[.int .u64 (L64 : Nat), .slice so5 m5 c5]) L64 (fun j => decide (j < L64) && bit g j)) ∧ Below W0.heap.size W0 w' := fun X hX => by
    obtain ⟨sl, h1, h2, h3⟩ := H1.out.1.same hX
    simp at h1
    subst h1
    rw [hL64]
    refine (Q.iFrom h2 HP.out.2.2.1 HP.out.2.2.2.1 h3).mono ?_
    rintro e w' ⟨h4, hb⟩
    exact ⟨h4, hX.trans (hb.mono hX.size)⟩
  have hF1 : ∀ X (x5 y5 z5 : Nat), Below W0.heap.size W0 X → Fil X (.agg #[.int .u64 (M : Nat), .int .u64 (K : Nat), .slice (some ⟨x5, y5, none⟩) N z5]) M K N (adds g h M K) → Calls Try.prog 18 #[.slice (some ⟨x5, y5, none⟩) N z5] X fun e w' => (∃ so5 m5 c5, e = .returned (.agg #[.int .u64 (L64 : Nat), .slice so5 m5 c5]) ∧ Q.IsBits w' (.agg #[.int .u64 (L64 : Nat), .slice so5 m5 c5]) L64 (fun j => decide (j < L64) && bit (adds g h M K) j)) ∧ Below W0.heap.size W0 w' := fun X x5 y5 z5 hX hf => by
    obtain ⟨sl, h1, h2, h3⟩ := hf
    simp at h1
    subst h1
    rw [hL64]
    refine (Q.iFrom h2 HP.out.2.2.1 HP.out.2.2.2.1 h3).mono ?_
    rintro e w' ⟨h4, hb⟩
    exact ⟨h4, hX.trans (hb.mono hX.size)⟩
  obtain ⟨a0, ha0⟩ : ∃ a, a = Q.many g N := ⟨_, rfl⟩
  obtain ⟨a1, ha1⟩ : ∃ a, a = Q.many (adds g h M K) N := ⟨_, rfl⟩
  have hN0 : ∀ X (so5 : Option Addr) (m5 c5 : Nat), Below W0.heap.size W0 X → Q.IsBits X (.agg #[.int .u64 (L64 : Nat), .slice so5 m5 c5]) L64 (fun j => decide (j < L64) && bit g j) → Calls Try.prog 17 #[.agg #[.int .u64 (L64 : Nat), .slice so5 m5 c5]] X fun e w' => e = .returned (.int .u64 (a0 : Nat)) ∧ Below W0.heap.size W0 w' := fun X so5 m5 c5 hX hf => by
    rw [hL64] at hf ⊢
    have := Q.iCount hf
    rw [Q.many_cd, ← ha0] at this
    refine this.mono ?_
    rintro e w' ⟨rfl, hb⟩
    exact ⟨rfl, hX.trans (hb.mono hX.size)⟩
  have hN1 : ∀ X (so5 : Option Addr) (m5 c5 : Nat), Below W0.heap.size W0 X → Q.IsBits X (.agg #[.int .u64 (L64 : Nat), .slice so5 m5 c5]) L64 (fun j => decide (j < L64) && bit (adds g h M K) j) → Calls Try.prog 17 #[.agg #[.int .u64 (L64 : Nat), .slice so5 m5 c5]] X fun e w' => e = .returned (.int .u64 (a1 : Nat)) ∧ Below W0.heap.size W0 w' := fun X so5 m5 c5 hX hf => by
    rw [hL64] at hf ⊢
    have := Q.iCount hf
    rw [Q.many_cd, ← ha1] at this
    refine this.mono ?_
    rintro e w' ⟨rfl, hb⟩
    exact ⟨rfl, hX.trans (hb.mono hX.size)⟩
  have hm1 : a0 ≤ a1 ∧ a1 ≤ a0 + K := by rw [ha0, ha1]; exact Q.many_adds g h M N K
  have hm2 : 0 < a1 := by rw [ha1]; exact Q.many_pos HP.out.1 HP.out.2.2.2.2.1 HK0.out
  have hm3 : decide (a0 < a1) = !found g h M K := by rw [ha0, ha1]; exact Q.many_found HP.out.1 HP.out.2.2.2.2.1
  have hm4 : a1 ≤ 64000 := by
    have := Q.many_le (adds g h M K) N
    have := HP.out.2.2.2.1
    omega
  obtain ⟨fo, hfo⟩ : ∃ x, x = found g h M K := ⟨_, rfl⟩
  rw [← hfo] at hT hm3
  obtain ⟨G, hG⟩ : ∃ G, G = adds g h M K := ⟨_, rfl⟩
  rw [← hG] at hA hF1 hN1
  have HT := Lib.hid hT
  have HA := Lib.hid hA
  have HF0 := Lib.hid hF0
  have HF1 := Lib.hid hF1
  have HN0 := Lib.hid hN0
  have HN1 := Lib.hid hN1
  have hfd := fun (x y z : Nat) (w : World) => run_words M K x y N z w
  clear hT hA hF0 hF1 hN0 hN1 ha0 ha1 hfo hG hL64
  obtain ⟨u0, u1, u2⟩ := hc W0 (Below.refl _ _)
  clear hc
  obtain ⟨d, hd⟩ : ∃ d, a1 = a0 + d := ⟨a1 - a0, by omega⟩
  have q1 : decide (0 < a1) = true := decide_eq_true hm2
  have q2 : decide (a0 ≤ a1) = true := decide_eq_true hm1.1
  have q3 : IntKind.u64.wrap ((a1 : Int) - (a0 : Int)) = (d : Int) := by simp [IntKind.wrap, IntKind.bits, IntKind.signed]; omega
  have q4 : decide (d ≤ K) = true := decide_eq_true (by omega)
  have q5 : (decide (a0 < a1) != fo) = true := by rw [hm3]; cases fo <;> rfl
  have HQ := Lib.hid (And.intro q1 (And.intro q2 (And.intro q3 (And.intro q4 q5))))
  clear hm1 hm2 hm3 hm4 hd q1 q2 q3 q4 q5
  go_wp2_with fail
  go_region_held3 (fun w' => w'.cell? ⟨b0, 0, none⟩ = some (.int .u64 (M : Nat)) ∧ w'.cell? ⟨b0, 1, none⟩ = some (.int .u64 (K : Nat)) ∧ w'.cell? ⟨b0, 2, none⟩ = some (.slice (some ⟨x0, y0, none⟩) N z0))
    (first | exact ⟨u0, u1, u2⟩ | exact HC.out _ G5.out | exact HC.out _ G4.out.1 | exact HC.out _ G3.out.1 | exact HC.out _ G2.out | exact HC.out _ G1.out.1)
    (first
      | (have := G4; go_at_call 17; refine (HN1.out _ so7 m7 c7 G4.out.1 G4.out.2).mono ?_; rintro e w6 ⟨rfl, hb⟩; have G5 : Hid (Below W0.heap.size W0 w6) := hb; clear hb)
      | (have := G3; go_at_call 18; refine (HF1.out _ x5 y5 z5 G3.out.1 G3.out.2).mono ?_; rintro e w5 ⟨⟨so7, m7, c7, rfl, hf⟩, hb⟩; have G4 := Lib.hid (And.intro hb hf); clear hb hf)
      | (have := G2; go_at_call 15; refine (HA.out _ G2.out).mono ?_; rintro e w4 ⟨⟨x5, y5, z5, rfl, hf⟩, hb⟩; have G3 := Lib.hid (And.intro hb hf); clear hb hf)
      | (have := G1; go_at_call 17; refine (HN0.out _ so6 m6 c6 G1.out.1 G1.out.2).mono ?_; rintro e w3 ⟨rfl, hb⟩; have G2 : Hid (Below W0.heap.size W0 w3) := hb; clear hb)
      | (go_at_call 18; refine (HF0.out _ (Below.refl _ _).drew).mono ?_; rintro e w2 ⟨⟨so6, m6, c6, rfl, hf⟩, hb⟩; have G1 := Lib.hid (And.intro hb hf); clear hb hf))
  have HG := Lib.hid G5.out
  obtain ⟨q1, q2, q3, q4, q5⟩ := HQ.out
  obtain ⟨u0, u1, u2⟩ := HC.out _ HG.out
  go_wp2_with fail
  refine (HT.out _ HG.out).mono ?_
  rintro e w7 ⟨rfl, hb⟩
  have G6 : Hid (Below W0.heap.size W0 w7) := hb
  clear hb
  go_wp2_with fail
  go_ret
  exact ⟨retB q5, H1.out.2.2.2.trans (G6.out.mono H1.out.2.2.2.size)⟩
set_option maxRecDepth 100000 in
theorem walk {w : World} {so so3 : Option Addr} {n cp dn dc : Nat} {f0 : Nat → Nat} {s : Nat → UInt8} (hw : Raww w so n cp f0) (m kk : Nat) (hm : m < 65536) (hk : kk < 256) (hd : Data w so3 dn dc s) :
    Calls Try.prog 6 #[.int .u16 m, .int .u8 kk, .slice so n cp, .slice so3 dn dc] w fun e w' => e = .returned (.bool true) ∧ Below w.heap.size w w' := by
  by_cases hn : n ≤ 2147483647
  · by_cases hdn : dn ≤ 2147483647
    · exact walkA hw m kk hm hk hd hn hdn
    · clear hw hd
      go_enter Try.func6, Try.ntmps6
      go_wp2_with fail
      go_ret
      exact ⟨rfl, Below.refl _ _⟩
  · clear hw hd
    go_enter Try.func6, Try.ntmps6
    go_wp2_with fail
    go_ret
    exact ⟨rfl, Below.refl _ _⟩

theorem own : ownKnob Try.prog.godebug = none := by kernel_rfl
theorem laidOut : laidOutB Try.prog = true := by kernel_rfl

set_option maxRecDepth 100000 in
theorem lifted (os : Os) (started : os.Started) (H : Type) (enc : TypeId × Value → H) :
    ReturnsInHanded {} Try.checked os 6 .any (Rows.fnBLDeepFewSpec.pre6 enc Try.prog Try.f6 Rows.fnBLDeepFewRow.domain false) (Rows.fnBLDeepFewSpec.post enc Try.prog Try.f6 false true false false) := by
  refine LawKit.lifted (C := Try.checked) (T := 4) own started (by kernel_rfl) Try.func6 laidOut (by kernel_rfl) (by kernel_rfl) Try.underlying4 rfl ?_
    (ChangeSpec.witness6 (enc := enc) (C := Try.checked) false ⟨#[], #[.int .u16 0, .int .u8 0, .slice none 0 0, .slice none 0 0], []⟩ 8 (by kernel_rfl) (by kernel_rfl) (by kernel_rfl) (by kernel_rfl)) ?_
  · intro ds hd
    match ds, hd with
    | [_, _, _, _], _ => rfl
  · intro W base args ds p hval0 hA0 _
    have hval : ∀ (j : Nat) t v, Try.f6.params[j]? = some t → args[j]? = some v → Value.okWide Try.prog W .any base t v := hval0
    have hA : DataW.TrodAll enc Try.prog W 0 (fun _ => true) true Try.f6.params.toList args.toList ds p := hA0
    rw [Try.params6] at hA hval
    obtain ⟨v0, vs0, d0, ds0, p0, q0, hargs, rfl, rfl, h0, r0⟩ := trodAll_cons hA
    obtain ⟨v1, vs1, d1, ds1, p1, q1, rfl, rfl, rfl, h1, r1⟩ := trodAll_cons r0
    obtain ⟨v2, vs2, d2, ds2, p2, q2, rfl, rfl, rfl, h2, r2⟩ := trodAll_cons r1
    obtain ⟨v3, vs3, d3, ds3, p3, q3, rfl, rfl, rfl, h3, r3⟩ := trodAll_cons r2
    obtain ⟨rfl, rfl, rfl⟩ := trodAll_nil r3
    obtain rfl : args = #[v0, v1, v2, v3] := by cases args; simp_all
    obtain ⟨a0, rfl, rfl, rfl, w0⟩ := open_int Try.underlying34 (hval 0 34 v0 rfl rfl) h0
    have b0 := bounds_u16 w0
    obtain ⟨i0, rfl⟩ : ∃ i : Nat, a0 = (i : Int) := ⟨a0.toNat, by omega⟩
    obtain ⟨a1, rfl, rfl, rfl, w1⟩ := open_int Try.underlying5 (hval 1 5 v1 rfl rfl) h1
    have b1 := bounds_u8 w1
    obtain ⟨i1, rfl⟩ : ∃ i : Nat, a1 = (i : Int) := ⟨a1.toNat, by omega⟩
    obtain ⟨so2, n2, cp2, rfl⟩ := okWide_slice Try.underlying22 (hval 2 22 v2 rfl rfl)
    obtain ⟨fu2, hf2⟩ := h2
    obtain ⟨so2', n2', cp2', f2, hv2, hr2⟩ := open_raww hf2
    simp only [Value.slice.injEq] at hv2
    obtain ⟨rfl, rfl, rfl⟩ := hv2
    obtain ⟨so3, n3, cp3, rfl⟩ := okWide_slice Try.underlying23 (hval 3 23 v3 rfl rfl)
    obtain ⟨fu3, hf3⟩ := h3
    obtain ⟨so3', n3', cp3', s3, hv3, hr3⟩ := open_data hf3
    simp only [Value.slice.injEq] at hv3
    obtain ⟨rfl, rfl, rfl⟩ := hv3
    exact walk hr2 i0 i1 (by omega) (by omega) hr3

theorem proved : Rows.FnBLDeepFewSaid :=
  OpenClaim.holds_of_wide 6 Try.f6 rfl rfl rfl rfl rfl rfl rfl ⟨rfl, rfl, rfl, rfl, rfl⟩ rfl rfl rfl rfl rfl (by kernel_rfl) Try.func6 (by kernel_rfl)
    (of_decide_eq_true (by kernel_rfl)) (by unfold Func.isWrapper; first | (rw [if_pos (by decide +kernel)]; kernel_rfl) | (rw [if_neg (by decide +kernel)]; exact ⟨rfl, rfl⟩))
    (fun os started H enc _ => lifted os started H enc)
#print axioms proved
end Go.Proofs.Ytbkodehcjhpcmaa.LFew
