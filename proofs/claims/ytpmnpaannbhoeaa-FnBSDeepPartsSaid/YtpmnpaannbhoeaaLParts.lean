/- FnBSDeepParts answers true for every bitset's data, every place and every lengths of the two parts. -/
import Derived.Test.YtpmnpaannbhoeaaBsP
import Derived.Test.YtpmnpaannbhoeaaLawKit
import Derived.Test.YtpmnpaannbhoeaaBsArg
namespace Go.Proofs.Ytpmnpaannbhoeaa.LParts
open Go.RowKit Go.ChangeShapes Go.WideShapes Go.ChangeAt

set_option maxRecDepth 100000 in
set_option maxHeartbeats 2000000 in
theorem walk {w : World} {l : Nat} {so : Option Addr} {n cp : Nat} {xs : List Nat} (hx : 0 < n → Nums .u64 w (.slice so n cp) xs) (from_ one two : Nat) (hl : l < 18446744073709551616) (hf : from_ < 65536) (ho : one < 65536) (ht : two < 65536) :
    Calls Try.prog 9 #[.agg #[.int .u64 l, .slice so n cp], .int .u16 from_, .int .u16 one, .int .u16 two] w fun e w' => e = .returned (.bool true) ∧ Below w.heap.size w w' := by
  have HX := Lib.hid hx
  clear hx
  by_cases hn : n ≤ 2147483647
  · have hcast : (from_ : Int) % 500 = ((from_ % 500 : Nat) : Int) := rfl
    have hcast2 : (one : Int) % 300 = ((one % 300 : Nat) : Int) := rfl
    have hcast3 : (two : Int) % 301 = ((two % 301 : Nat) : Int) := rfl
    have hi : from_ % 500 < 500 := Nat.mod_lt _ (by decide)
    have ho : one % 300 < 300 := Nat.mod_lt _ (by decide)
    have ht : two % 301 < 301 := Nat.mod_lt _ (by decide)
    obtain ⟨i, hie⟩ : ∃ i, i = from_ % 500 := ⟨_, rfl⟩
    obtain ⟨o, hoe⟩ : ∃ i, i = one % 300 := ⟨_, rfl⟩
    obtain ⟨q, hqe⟩ : ∃ i, i = two % 301 := ⟨_, rfl⟩
    rw [← hie] at hcast hi
    rw [← hoe] at hcast2 ho
    rw [← hqe] at hcast3 ht
    obtain ⟨K, hK⟩ : ∃ K, K = i + 1 + o := ⟨_, rfl⟩
    obtain ⟨M, hM⟩ : ∃ M, M = K + q := ⟨_, rfl⟩
    obtain ⟨D, hD⟩ : ∃ D, M = i + D := ⟨1 + o + q, by omega⟩
    have hK1 : (i : Int) + 1 + (o : Int) = (K : Int) := by omega
    have hM1 : (K : Int) + (q : Int) = (M : Int) := by omega
    have hD1 : (M : Int) - (i : Int) = (D : Int) := by omega
    have hiK : i < K := by omega
    have hKM : K ≤ M := by omega
    have hM3 : M ≤ 1200 := by omega
    have HDD := Lib.hid hD
    clear hie hoe hqe hK hM hD
    go_enter Try.func9, Try.ntmps9
    go_wp2_with fail
    refine (zzFits3_any _ _ _ _ _ hn).mono ?_
    rintro e w1 ⟨rfl, hb⟩
    have HB : Hid (Below w.heap.size w w1) := ((Below.refl _ _).alloc (Nat.le_refl _) _).trans (hb.mono (by simp))
    have c0 : w1.cell? ⟨w.heap.size, 0, none⟩ = some (.int .u64 l) := (hb.cell (by simp)).trans (by simp)
    have c1 : w1.cell? ⟨w.heap.size, 1, none⟩ = some (.slice so n cp) := (hb.cell (by simp)).trans (by simp)
    clear hb
    go_wp2_with fail
    refine (bsBits_any (fun h => (HX.out h).same HB.out) hn hl).mono ?_
    rintro e w2 ⟨S, v2, rfl, hbits, hb⟩
    have H2 : Hid (IsBits w2 v2 (l % 401) S ∧ Below w.heap.size w w2) := ⟨hbits, HB.out.trans (hb.mono HB.out.size)⟩
    clear hbits hb c0 c1
    obtain ⟨L, hL⟩ : ∃ L, L = l % 401 := ⟨_, rfl⟩
    have hL4 : L ≤ 400 := by omega
    rw [← hL] at H2
    clear hL
    obtain ⟨so2, n2, cp2, rfl⟩ := H2.out.1.shape
    obtain ⟨LB, hLB⟩ : ∃ LB, LB = max L M := ⟨_, rfl⟩
    obtain ⟨L1, hL1⟩ : ∃ L1, L1 = max L K := ⟨_, rfl⟩
    have hLB2 : LB = max L1 M := by omega
    have hL12 : L1 ≤ 2000 := by omega
    have hLB5 : LB ≤ 2000 := by omega
    have hKL : K ≤ L1 := by omega
    have HLB := Lib.hid hLB
    have HLB2 := Lib.hid hLB2
    have HL1 := Lib.hid hL1
    clear hLB hLB2 hL1
    go_wp2_with fail
    have HW : Hid (Below w2.heap.size w2 (w2.alloc (Obj.cells #[Value.int IntKind.u64 ↑L, Value.slice so2 n2 cp2] 25)) ∧ Blk (w2.alloc (Obj.cells #[Value.int IntKind.u64 ↑L, Value.slice so2 n2 cp2] 25)) w2.heap.size #[Value.int IntKind.u64 L, Value.slice so2 n2 cp2] 25) := ⟨(Below.refl _ _).alloc (Nat.le_refl _) _, Blk.new w2 _ _⟩
    generalize (w2.alloc (Obj.cells #[Value.int IntKind.u64 ↑L, Value.slice so2 n2 cp2] 25)) = W at *
    obtain ⟨pa, hpa⟩ : ∃ pa, pa = w2.heap.size := ⟨_, rfl⟩
    rw [← hpa] at HW ⊢
    have HA0 : Hid (∀ W' : World, Below W.heap.size W W' → IsBits W' (.agg #[.int .u64 L, .slice so2 n2 cp2]) L S) := Lib.hid (fun W' hb => H2.out.1.same (by rw [← hpa]; exact HW.out.1.trans (hb.mono (Nat.le_of_lt HW.out.2.lt))))
    have HE0 : Hid (Below w.heap.size w W) := Lib.hid (H2.out.2.trans (HW.out.1.mono (by rw [hpa]; exact H2.out.2.size)))
    clear hpa
    refine (iSetRange (HA0.out _ (Below.refl _ _)) i M (by omega) (by omega) (by omega)).mono ?_
    rintro e w3 ⟨v3, rfl, hv, hb⟩
    rw [← HLB.out] at hv
    obtain ⟨so3, n3, cp3, rfl⟩ := hv.shape
    have H3 : Hid (IsBits w3 (.agg #[.int .u64 LB, .slice so3 n3 cp3]) LB (fun j => S j || (decide (i ≤ j) && decide (j < M))) ∧ Below W.heap.size W w3) := ⟨hv, hb⟩
    clear hv hb
    go_wp2_with fail
    have HX : Hid (Below W.heap.size W (w3.alloc (Obj.cells #[Value.int IntKind.u64 ↑LB, Value.slice so3 n3 cp3] 25)) ∧ Blk (w3.alloc (Obj.cells #[Value.int IntKind.u64 ↑LB, Value.slice so3 n3 cp3] 25)) w3.heap.size #[Value.int IntKind.u64 LB, Value.slice so3 n3 cp3] 25 ∧ IsBits (w3.alloc (Obj.cells #[Value.int IntKind.u64 ↑LB, Value.slice so3 n3 cp3] 25)) (.agg #[.int .u64 LB, .slice so3 n3 cp3]) LB (fun j => S j || (decide (i ≤ j) && decide (j < M)))) := ⟨H3.out.2.alloc H3.out.2.size _, Blk.new _ _ _, H3.out.1.same ((Below.refl _ _).alloc (Nat.le_refl _) _)⟩
    generalize (w3.alloc (Obj.cells #[Value.int IntKind.u64 ↑LB, Value.slice so3 n3 cp3] 25)) = X at *
    generalize w3.heap.size = pb at *
    have HC : Hid (∀ W' : World, Below X.heap.size X W' → W'.cell? ⟨pa, 0, none⟩ = some (.int .u64 L) ∧ W'.cell? ⟨pa, 1, none⟩ = some (.slice so2 n2 cp2) ∧ W'.cell? ⟨pb, 0, none⟩ = some (.int .u64 LB) ∧ W'.cell? ⟨pb, 1, none⟩ = some (.slice so3 n3 cp3)) := Lib.hid (fun W' hb => by
      have hb2 := HX.out.1.trans (hb.mono HX.out.1.size)
      have x1 := HW.out.2.below hb2 HW.out.2.lt
      have x2 := HX.out.2.1.below hb HX.out.2.1.lt
      exact ⟨x1.cell rfl, x1.cell rfl, x2.cell rfl, x2.cell rfl⟩)
    have HA : Hid (∀ W' : World, Below X.heap.size X W' → IsBits W' (.agg #[.int .u64 L, .slice so2 n2 cp2]) L S) := Lib.hid (fun W' hb => HA0.out W' (HX.out.1.trans (hb.mono HX.out.1.size)))
    have HBb : Hid (∀ W' : World, Below X.heap.size X W' → IsBits W' (.agg #[.int .u64 LB, .slice so3 n3 cp3]) LB (fun j => S j || (decide (i ≤ j) && decide (j < M)))) := Lib.hid (fun W' hb => HX.out.2.2.same hb)
    have HE : Hid (Below w.heap.size w X) := Lib.hid (HE0.out.trans (HX.out.1.mono HE0.out.size))
    have HS1 : Hid (∀ W' : World, Below X.heap.size X W' → Calls Try.prog 36 #[(.agg #[.int .u64 L, .slice so2 n2 cp2]), .int .u64 i, .int .u64 K] W' (Gives W' L1 fun j => S j || (decide (i ≤ j) && decide (j < K)))) := Lib.hid (fun W' hb => by
      rw [HL1.out]; exact iSetRange (HA.out W' hb) i K hiK (by omega) (by omega))
    have HS2 : Hid (∀ (W' : World) (v : Value), IsBits W' v L1 (fun j => S j || (decide (i ≤ j) && decide (j < K))) → Calls Try.prog 36 #[v, .int .u64 K, .int .u64 M] W' (Gives W' LB fun j => (S j || (decide (i ≤ j) && decide (j < K))) || (decide (K ≤ j) && decide (j < M)))) := Lib.hid (fun W' v hv => by
      rw [HLB2.out]; exact iSetRangeLe hv K M hKM (by omega) (by omega) (by omega))
    have HF1 : Hid (∀ W' : World, Below X.heap.size X W' → Calls Try.prog 39 #[(.agg #[.int .u64 L, .slice so2 n2 cp2]), .int .u64 i, .int .u64 M] W' (Gives W' LB fun j => S j != (decide (i ≤ j) && decide (j < M)))) := Lib.hid (fun W' hb => by
      rw [HLB.out]; exact iFlipRange (HA.out W' hb) i M (by omega) (by omega) (by omega))
    have HF2 : Hid (∀ W' : World, Below X.heap.size X W' → Calls Try.prog 39 #[(.agg #[.int .u64 L, .slice so2 n2 cp2]), .int .u64 i, .int .u64 K] W' (Gives W' L1 fun j => S j != (decide (i ≤ j) && decide (j < K)))) := Lib.hid (fun W' hb => by
      rw [HL1.out]; exact iFlipRange (HA.out W' hb) i K hiK (by omega) (by omega))
    have HF3 : Hid (∀ (W' : World) (v : Value), IsBits W' v L1 (fun j => S j != (decide (i ≤ j) && decide (j < K))) → Calls Try.prog 39 #[v, .int .u64 K, .int .u64 M] W' (Gives W' LB fun j => (S j != (decide (i ≤ j) && decide (j < K))) != (decide (K ≤ j) && decide (j < M)))) := Lib.hid (fun W' v hv => by
      rw [HLB2.out]; exact iFlipRangeLe hv K M hKM (by omega) (by omega) (by omega))
    have HO : Hid (∀ W' : World, Below X.heap.size X W' → Calls Try.prog 28 #[(.agg #[.int .u64 LB, .slice so3 n3 cp3]), .int .u64 i, .int .u64 M] W' fun e w' => e = .returned (.int .u64 D) ∧ Below W'.heap.size W' w') := Lib.hid (fun W' hb => by
      have := iBetween (HBb.out W' hb) i M (by omega) (by omega)
      rw [HDD.out, cd_full (fun j h1 h2 => by rw [decide_eq_true h1, decide_eq_true h2]; simp)] at this
      rw [HDD.out]
      exact this)
    have hsame1 : ∀ j, (S j || (decide (i ≤ j) && decide (j < M))) = ((S j || (decide (i ≤ j) && decide (j < K))) || (decide (K ≤ j) && decide (j < M))) := fun j => by
      by_cases h1 : j < K
      · rw [decide_eq_true h1, decide_eq_true (show j < M by omega), decide_eq_false (show ¬ K ≤ j by omega)]; simp
      · rw [decide_eq_false h1, decide_eq_true (show K ≤ j by omega), decide_eq_true (show i ≤ j by omega)]; simp
    have hsame2 : ∀ j, (S j != (decide (i ≤ j) && decide (j < M))) = ((S j != (decide (i ≤ j) && decide (j < K))) != (decide (K ≤ j) && decide (j < M))) := fun j => by
      by_cases h1 : j < K
      · rw [decide_eq_true h1, decide_eq_true (show j < M by omega), decide_eq_false (show ¬ K ≤ j by omega)]; simp
      · rw [decide_eq_false h1, decide_eq_true (show K ≤ j by omega), decide_eq_true (show i ≤ j by omega)]; simp
    have HY1 := Lib.hid hsame1
    have HY2 := Lib.hid hsame2
    clear hsame1 hsame2
    have hws : IntKind.u64.wrap (D : Int) = (D : Int) := by have := HDD.out; simp [IntKind.wrap, IntKind.bits, IntKind.signed]; omega
    have hws2 : ((D : Int) == (D : Int)) = true := beq_self_eq_true _
    obtain ⟨c0, c1, c2, c3⟩ := HC.out X (Below.refl _ _)
    go_region_held3 (fun w' => w'.cell? ⟨pa, 0, none⟩ = some (.int .u64 L) ∧ w'.cell? ⟨pa, 1, none⟩ = some (.slice so2 n2 cp2) ∧ w'.cell? ⟨pb, 0, none⟩ = some (.int .u64 LB) ∧ w'.cell? ⟨pb, 1, none⟩ = some (.slice so3 n3 cp3))
      (first | exact ⟨c0, c1, c2, c3⟩ | exact HC.out _ G8.out | exact HC.out _ G7.out | exact HC.out _ G6.out.2.2 | exact HC.out _ G5.out.2.2 | exact HC.out _ G4.out.2 | exact HC.out _ G3.out | exact HC.out _ G2.out.2 | exact HC.out _ G1.out.2)
      (first
        | (go_at_call 36; refine (HS2.out _ _ G1.out.1).mono ?_; rintro e w5 ⟨v5, rfl, hv, hb⟩; have G2 : Hid (IsBits w5 v5 LB (fun j => (S j || (decide (i ≤ j) && decide (j < K))) || (decide (K ≤ j) && decide (j < M))) ∧ Below X.heap.size X w5) := ⟨hv, G1.out.2.trans (hb.mono G1.out.2.size)⟩; clear hv hb)
        | (go_at_call 36; refine (HS1.out _ (Below.refl X.heap.size X).drew).mono ?_; rintro e w4 ⟨v4, rfl, hv, hb⟩; have G1 : Hid (IsBits w4 v4 L1 (fun j => S j || (decide (i ≤ j) && decide (j < K))) ∧ Below X.heap.size X w4) := ⟨hv, (Below.refl X.heap.size X).drew.trans hb⟩; clear hv hb)
        | (go_at_call 38; refine (same_true (G6.out.2.1) G6.out.1 HY2.out).mono ?_; rintro e w10 ⟨rfl, hb⟩; have G7 : Hid (Below X.heap.size X w10) := Lib.hid (G6.out.2.2.trans (hb.mono G6.out.2.2.size)); clear hb)
        | (go_at_call 38; refine (same_true (HBb.out _ G2.out.2) G2.out.1 HY1.out).mono ?_; rintro e w6 ⟨rfl, hb⟩; have G3 : Hid (Below X.heap.size X w6) := Lib.hid (G2.out.2.trans (hb.mono G2.out.2.size)); clear hb)
        | (go_at_call 39; refine (HF3.out _ _ G5.out.1).mono ?_; rintro e w9 ⟨v9, rfl, hv, hb⟩; have G6 : Hid (IsBits w9 v9 LB (fun j => (S j != (decide (i ≤ j) && decide (j < K))) != (decide (K ≤ j) && decide (j < M))) ∧ IsBits w9 v7 LB (fun j => S j != (decide (i ≤ j) && decide (j < M))) ∧ Below X.heap.size X w9) := ⟨hv, G5.out.2.1.same hb, G5.out.2.2.trans (hb.mono G5.out.2.2.size)⟩; clear hv hb)
        | (go_at_call 39; refine (HF2.out _ G4.out.2).mono ?_; rintro e w8 ⟨v8, rfl, hv, hb⟩; have G5 : Hid (IsBits w8 v8 L1 (fun j => S j != (decide (i ≤ j) && decide (j < K))) ∧ IsBits w8 v7 LB (fun j => S j != (decide (i ≤ j) && decide (j < M))) ∧ Below X.heap.size X w8) := ⟨hv, G4.out.1.same hb, G4.out.2.trans (hb.mono G4.out.2.size)⟩; clear hv hb)
        | (go_at_call 39; refine (HF1.out _ G3.out).mono ?_; rintro e w7 ⟨v7, rfl, hv, hb⟩; have G4 : Hid (IsBits w7 v7 LB (fun j => S j != (decide (i ≤ j) && decide (j < M))) ∧ Below X.heap.size X w7) := ⟨hv, G3.out.trans (hb.mono G3.out.size)⟩; clear hv hb)
        | (go_at_call 28; refine (HO.out _ G7.out).mono ?_; rintro e w11 ⟨rfl, hb⟩; have G8 : Hid (Below X.heap.size X w11) := Lib.hid (G7.out.trans (hb.mono G7.out.size)); clear hb))
    go_wp2_with fail
    go_ret
    exact ⟨rfl, HE.out.trans (G8.out.mono HE.out.size)⟩
  · go_enter Try.func9, Try.ntmps9
    go_wp2_with fail
    refine (zzFits3_no _ _ _ _ _ (by omega)).mono ?_
    rintro e w1 ⟨rfl, hb⟩
    have HB : Hid (Below w.heap.size w w1) := ((Below.refl _ _).alloc (Nat.le_refl _) _).trans (hb.mono (by simp))
    clear hb
    go_wp2_with fail
    go_ret
    exact ⟨rfl, HB.out⟩

theorem own : ownKnob Try.prog.godebug = none := by kernel_rfl
theorem laidOut : laidOutB Try.prog = true := by kernel_rfl

set_option maxRecDepth 100000 in
theorem lifted (os : Os) (started : os.Started) (H : Type) (enc : TypeId × Value → H) :
    ReturnsInHanded {} Try.checked os 9 .any (Rows.fnBSDeepPartsSpec.pre6 enc Try.prog Try.f9 Rows.fnBSDeepPartsRow.domain false) (Rows.fnBSDeepPartsSpec.post enc Try.prog Try.f9 false true false false) := by
  refine LawKit.lifted (C := Try.checked) (T := 4) own started (by kernel_rfl) Try.func9 laidOut (by kernel_rfl) (by kernel_rfl) Try.underlying4 rfl ?_
    (ChangeSpec.witness6 (enc := enc) (C := Try.checked) false ⟨#[], #[.agg #[.int .u64 0, .slice none 0 0], .int .u16 0, .int .u16 0, .int .u16 0], []⟩ 8 (by kernel_rfl) (by kernel_rfl) (by kernel_rfl) (by kernel_rfl)) ?_
  · intro ds hd
    match ds, hd with
    | [_, _, _, _], _ => rfl
  · intro W base args ds p hval0 hA0 _
    have hval : ∀ (j : Nat) t v, Try.f9.params[j]? = some t → args[j]? = some v → Value.okWide Try.prog W .any base t v := hval0
    have hA : DataW.TrodAll enc Try.prog W 0 (fun _ => true) true Try.f9.params.toList args.toList ds p := hA0
    rw [Try.params9] at hA hval
    obtain ⟨v0, vs0, d0, ds0, p0, q0, hargs, rfl, rfl, h0, r0⟩ := trodAll_cons hA
    obtain ⟨v1, vs1, d1, ds1, p1, q1, rfl, rfl, rfl, h1, r1⟩ := trodAll_cons r0
    obtain ⟨v2, vs2, d2, ds2, p2, q2, rfl, rfl, rfl, h2, r2⟩ := trodAll_cons r1
    obtain ⟨v3, vs3, d3, ds3, p3, q3, rfl, rfl, rfl, h3, r3⟩ := trodAll_cons r2
    obtain ⟨rfl, rfl, rfl⟩ := trodAll_nil r3
    obtain rfl : args = #[v0, v1, v2, v3] := by cases args; simp_all
    obtain ⟨l0, so0, n0, cp0, xs0, rfl, hl0, hx0⟩ := open_bits (hval 0 25 v0 rfl rfl) h0
    obtain ⟨a1, rfl, rfl, rfl, w1⟩ := open_int Try.underlying26 (hval 1 26 v1 rfl rfl) h1
    have b1 := bounds_u16 w1
    obtain ⟨i1, rfl⟩ : ∃ i : Nat, a1 = (i : Int) := ⟨a1.toNat, by omega⟩
    obtain ⟨a2, rfl, rfl, rfl, w2⟩ := open_int Try.underlying26 (hval 2 26 v2 rfl rfl) h2
    have b2 := bounds_u16 w2
    obtain ⟨i2, rfl⟩ : ∃ i : Nat, a2 = (i : Int) := ⟨a2.toNat, by omega⟩
    obtain ⟨a3, rfl, rfl, rfl, w3⟩ := open_int Try.underlying26 (hval 3 26 v3 rfl rfl) h3
    have b3 := bounds_u16 w3
    obtain ⟨i3, rfl⟩ : ∃ i : Nat, a3 = (i : Int) := ⟨a3.toNat, by omega⟩
    exact walk hx0 i1 i2 i3 hl0 (by omega) (by omega) (by omega)

theorem proved : Rows.FnBSDeepPartsSaid :=
  OpenClaim.holds_of_wide 9 Try.f9 rfl rfl rfl rfl rfl rfl rfl ⟨rfl, rfl, rfl, rfl, rfl⟩ rfl rfl rfl rfl rfl (by kernel_rfl) Try.func9 (by kernel_rfl)
    (of_decide_eq_true (by kernel_rfl)) (by unfold Func.isWrapper; first | (rw [if_pos (by decide +kernel)]; kernel_rfl) | (rw [if_neg (by decide +kernel)]; exact ⟨rfl, rfl⟩))
    (fun os started H enc _ => lifted os started H enc)
#print axioms proved
end Go.Proofs.Ytpmnpaannbhoeaa.LParts
