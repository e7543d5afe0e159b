/- FnBSDeepShift answers true for every bitset's data, every place and every two distances. -/
import Derived.Test.YtpmnpaannbhoeaaBsS
import Derived.Test.YtpmnpaannbhoeaaLawKit
import Derived.Test.YtpmnpaannbhoeaaBsArg
namespace Go.Proofs.Ytpmnpaannbhoeaa.LShift
open Go.RowKit Go.ChangeShapes Go.WideShapes Go.ChangeAt

theorem cd_shift {T : Nat → Bool} {z L M : Nat} (hM : M ≤ L + z) (hout : ∀ j, M ≤ j → (decide (z ≤ j) && T (j - z)) = false) : cd (fun j => (decide (z ≤ j) && T (j - z))) M = cd T L := by
  rw [← cd_more (S := fun j => (decide (z ≤ j) && T (j - z))) hM hout, Nat.add_comm, cd_add, cd_zero z fun j hj => by rw [decide_eq_false (by omega), Bool.false_and], Nat.zero_add]
  exact cd_congr L fun j hj => by rw [decide_eq_true (show z ≤ z + j by omega), show z + j - z = j by omega, Bool.true_and]
set_option maxRecDepth 100000 in
set_option maxHeartbeats 2000000 in
theorem walk {w : World} {l : Nat} {so : Option Addr} {n cp : Nat} {xs : List Nat} (hx : 0 < n → Nums .u64 w (.slice so n cp) xs) (at_ one two : Nat) (hl : l < 18446744073709551616) (hf : at_ < 65536) (h1 : one < 65536) (h2 : two < 65536) :
    Calls Try.prog 10 #[.agg #[.int .u64 l, .slice so n cp], .int .u16 at_, .int .u16 one, .int .u16 two] w fun e w' => e = .returned (.bool true) ∧ Below w.heap.size w w' := by
  have HX := Lib.hid hx
  clear hx
  by_cases hn : n ≤ 2147483647
  · have hcast : (at_ : Int) % 400 = ((at_ % 400 : Nat) : Int) := rfl
    have hcast2 : (one : Int) % 201 = ((one % 201 : Nat) : Int) := rfl
    have hcast3 : (two : Int) % 201 = ((two % 201 : Nat) : Int) := rfl
    have hi : at_ % 400 < 400 := Nat.mod_lt _ (by decide)
    have hx : one % 201 < 201 := Nat.mod_lt _ (by decide)
    have hy : two % 201 < 201 := Nat.mod_lt _ (by decide)
    obtain ⟨i, hie⟩ : ∃ i, i = at_ % 400 := ⟨_, rfl⟩
    obtain ⟨x, hxe⟩ : ∃ i, i = one % 201 := ⟨_, rfl⟩
    obtain ⟨y, hye⟩ : ∃ i, i = two % 201 := ⟨_, rfl⟩
    rw [← hie] at hcast hi
    rw [← hxe] at hcast2 hx
    rw [← hye] at hcast3 hy
    obtain ⟨z, hz⟩ : ∃ z, z = x + y := ⟨_, rfl⟩
    have hz1 : (x : Int) + (y : Int) = (z : Int) := by omega
    have hz4 : z ≤ 400 := by omega
    have HZ := Lib.hid hz
    clear hie hxe hye hz
    go_enter Try.func10, Try.ntmps10
    go_wp2_with fail
    refine (zzFits3_any _ _ _ _ _ hn).mono ?_
    rintro e w1 ⟨rfl, hb⟩
    have HB : Hid (Below w.heap.size w w1) := ((Below.refl _ _).alloc (Nat.le_refl _) _).trans (hb.mono (by simp))
    have c0 : w1.cell? ⟨w.heap.size, 0, none⟩ = some (.int .u64 l) := (hb.cell (by simp)).trans (by simp)
    have c1 : w1.cell? ⟨w.heap.size, 1, none⟩ = some (.slice so n cp) := (hb.cell (by simp)).trans (by simp)
    clear hb
    go_wp2_with fail
    refine (bsBits_any (fun h => (HX.out h).same HB.out) hn hl).mono ?_
    rintro e w2 ⟨S, v2, rfl, hbits, hb⟩
    have H2 : Hid (IsBits w2 v2 (l % 401) S ∧ Below w.heap.size w w2) := ⟨hbits, HB.out.trans (hb.mono HB.out.size)⟩
    clear hbits hb c0 c1
    obtain ⟨L, hL⟩ : ∃ L, L = max (l % 401) (i + 1) := ⟨_, rfl⟩
    have hs := iSet H2.out.1 i (by omega)
    have hiL : i < L := by omega
    have hL5 : L ≤ 401 := by omega
    rw [← hL] at hs
    clear hL
    go_wp2_with fail
    refine hs.mono ?_
    rintro e w3 ⟨v3, rfl, hv3, hb3⟩
    obtain ⟨so3, n3, cp3, rfl⟩ := hv3.shape
    obtain ⟨T, hT⟩ : ∃ T : Nat → Bool, T = fun j => S j || decide (i = j) := ⟨_, rfl⟩
    rw [← hT] at hv3
    have hTi : T i = true := by rw [hT]; simp
    have HTi := Lib.hid hTi
    have H3 : Hid (IsBits w3 (.agg #[.int .u64 L, .slice so3 n3 cp3]) L T ∧ Below w.heap.size w w3) := ⟨hv3, H2.out.2.trans (hb3.mono H2.out.2.size)⟩
    clear hv3 hb3 hs hT hTi
    go_wp2_with fail
    have HW : Hid (Below w.heap.size w (w3.alloc (Obj.cells #[Value.int IntKind.u64 ↑L, Value.slice so3 n3 cp3] 25)) ∧ Blk (w3.alloc (Obj.cells #[Value.int IntKind.u64 ↑L, Value.slice so3 n3 cp3] 25)) w3.heap.size #[Value.int IntKind.u64 L, Value.slice so3 n3 cp3] 25 ∧ IsBits (w3.alloc (Obj.cells #[Value.int IntKind.u64 ↑L, Value.slice so3 n3 cp3] 25)) (.agg #[.int .u64 L, .slice so3 n3 cp3]) L T) := ⟨H3.out.2.alloc H3.out.2.size _, Blk.new w3 _ _, H3.out.1.same ((Below.refl _ _).alloc (Nat.le_refl _) _)⟩
    generalize w3.alloc (Obj.cells #[Value.int IntKind.u64 ↑L, Value.slice so3 n3 cp3] 25) = W at *
    generalize w3.heap.size = pa at *
    refine (iShiftL HW.out.2.2 z (by omega)).mono ?_
    rintro e w4 ⟨LB, hLB, v4, rfl, hv4, hb4⟩
    obtain ⟨so4, n4, cp4, rfl⟩ := hv4.shape
    have H4 : Hid (IsBits w4 (.agg #[.int .u64 LB, .slice so4 n4 cp4]) LB (fun j => (decide (z ≤ j) && T (j - z))) ∧ Below W.heap.size W w4) := ⟨hv4, hb4⟩
    clear hv4 hb4
    go_wp2_with fail
    have HX : Hid (Below W.heap.size W (w4.alloc (Obj.cells #[Value.int IntKind.u64 ↑LB, Value.slice so4 n4 cp4] 25)) ∧ Blk (w4.alloc (Obj.cells #[Value.int IntKind.u64 ↑LB, Value.slice so4 n4 cp4] 25)) w4.heap.size #[Value.int IntKind.u64 LB, Value.slice so4 n4 cp4] 25 ∧ IsBits (w4.alloc (Obj.cells #[Value.int IntKind.u64 ↑LB, Value.slice so4 n4 cp4] 25)) (.agg #[.int .u64 LB, .slice so4 n4 cp4]) LB (fun j => (decide (z ≤ j) && T (j - z)))) := ⟨H4.out.2.alloc H4.out.2.size _, Blk.new w4 _ _, H4.out.1.same ((Below.refl _ _).alloc (Nat.le_refl _) _)⟩
    generalize w4.alloc (Obj.cells #[Value.int IntKind.u64 ↑LB, Value.slice so4 n4 cp4] 25) = X at *
    generalize w4.heap.size = pb at *
    have HC : Hid (∀ W' : World, Below X.heap.size X W' → W'.cell? ⟨pa, 0, none⟩ = some (.int .u64 L) ∧ W'.cell? ⟨pa, 1, none⟩ = some (.slice so3 n3 cp3) ∧ W'.cell? ⟨pb, 0, none⟩ = some (.int .u64 LB) ∧ W'.cell? ⟨pb, 1, none⟩ = some (.slice so4 n4 cp4)) := Lib.hid (fun W' hb => by
      have hb2 := HX.out.1.trans (hb.mono HX.out.1.size)
      have x1 := HW.out.2.1.below hb2 HW.out.2.1.lt
      have x2 := HX.out.2.1.below hb HX.out.2.1.lt
      exact ⟨x1.cell rfl, x1.cell rfl, x2.cell rfl, x2.cell rfl⟩)
    have HA : Hid (∀ W' : World, Below X.heap.size X W' → IsBits W' (.agg #[.int .u64 L, .slice so3 n3 cp3]) L T) := Lib.hid (fun W' hb => HW.out.2.2.same (HX.out.1.trans (hb.mono HX.out.1.size)))
    have HBb : Hid (∀ W' : World, Below X.heap.size X W' → IsBits W' (.agg #[.int .u64 LB, .slice so4 n4 cp4]) LB (fun j => (decide (z ≤ j) && T (j - z)))) := Lib.hid (fun W' hb => HX.out.2.2.same hb)
    have HE : Hid (Below w.heap.size w X) := Lib.hid (HW.out.1.trans (HX.out.1.mono HW.out.1.size))
    have hLB2 : LB ≤ L + z := hLB
    have HS1 : Hid (∀ W' : World, Below X.heap.size X W' → Calls Try.prog 25 #[(.agg #[.int .u64 L, .slice so3 n3 cp3]), .int .u64 x] W' fun e w' => ∃ L1, L1 ≤ L + x ∧ Gives W' L1 (fun j => decide (x ≤ j) && T (j - x)) e w') := Lib.hid (fun W' hb => iShiftL (HA.out W' hb) x (by omega))
    have HS2 : Hid (∀ (W' : World) (v : Value) (L1 : Nat), L1 ≤ L + x → IsBits W' v L1 (fun j => decide (x ≤ j) && T (j - x)) → Calls Try.prog 25 #[v, .int .u64 y] W' fun e w' => ∃ L2, L2 ≤ L1 + y ∧ Gives W' L2 (fun j => decide (y ≤ j) && (decide (x ≤ j - y) && T (j - y - x))) e w') := Lib.hid (fun W' v L1 hL1 hv => iShiftL hv y (by omega))
    have HR1 : Hid (∀ W' : World, Below X.heap.size X W' → Calls Try.prog 40 #[(.agg #[.int .u64 LB, .slice so4 n4 cp4]), .int .u64 x] W' (Gives W' LB fun j => decide (z ≤ j + x) && T (j + x - z))) := Lib.hid (fun W' hb => iShiftR (HBb.out W' hb) x ⟨i + z, by have := HZ.out; omega, by show (decide (z ≤ i + z) && T (i + z - z)) = true; rw [decide_eq_true (by omega), Nat.add_sub_cancel, HTi.out]; rfl⟩)
    have HR2 : Hid (∀ (W' : World) (v : Value), IsBits W' v LB (fun j => decide (z ≤ j + x) && T (j + x - z)) → Calls Try.prog 40 #[v, .int .u64 y] W' (Gives W' LB fun j => decide (z ≤ j + y + x) && T (j + y + x - z))) := Lib.hid (fun W' v hv => iShiftR hv y ⟨i + y, by omega, by show (decide (z ≤ i + y + x) && T (i + y + x - z)) = true; rw [decide_eq_true (by have := HZ.out; omega), show i + y + x - z = i by have := HZ.out; omega, HTi.out]; rfl⟩)
    obtain ⟨N, hN⟩ : ∃ N, N = cd T L := ⟨_, rfl⟩
    have hN0 : decide (0 < N) = true := by rw [hN]; exact decide_eq_true (cd_pos hiL HTi.out)
    have HCa : Hid (∀ W' : World, Below X.heap.size X W' → Calls Try.prog 26 #[(.agg #[.int .u64 L, .slice so3 n3 cp3])] W' fun e w' => e = .returned (.int .u64 N) ∧ Below W'.heap.size W' w') := Lib.hid (fun W' hb => by rw [hN]; exact iCount (HA.out W' hb))
    have HCb : Hid (∀ W' : World, Below X.heap.size X W' → Calls Try.prog 26 #[(.agg #[.int .u64 LB, .slice so4 n4 cp4])] W' fun e w' => e = .returned (.int .u64 N) ∧ Below W'.heap.size W' w') := Lib.hid (fun W' hb => by
      have h3 := HBb.out W' hb
      have := iCount h3
      rw [cd_shift hLB2 (fun j hj => h3.out j hj)] at this
      rw [hN]
      exact this)
    have HY1 : Hid (∀ j, (decide (y ≤ j) && (decide (x ≤ j - y) && T (j - y - x))) = (decide (z ≤ j) && T (j - z))) := Lib.hid (fun j => by
      have := HZ.out
      by_cases h1 : z ≤ j
      · rw [decide_eq_true h1, decide_eq_true (show y ≤ j by omega), decide_eq_true (show x ≤ j - y by omega), show j - y - x = j - z by omega]; simp
      · rw [decide_eq_false h1]
        by_cases h2 : y ≤ j
        · rw [decide_eq_false (show ¬ x ≤ j - y by omega)]; simp
        · rw [decide_eq_false h2]; simp)
    have HY2 : Hid (∀ j, (decide (z ≤ j + y + x) && T (j + y + x - z)) = T j) := Lib.hid (fun j => by
      have := HZ.out
      rw [decide_eq_true (show z ≤ j + y + x by omega), show j + y + x - z = j by omega, Bool.true_and])
    clear hN hLB
    have hws2 : ((N : Int) == (N : Int)) = true := beq_self_eq_true _
    obtain ⟨c0, c1, c2, c3⟩ := HC.out X (Below.refl _ _)
    go_region_held3 (fun w' => w'.cell? ⟨pa, 0, none⟩ = some (.int .u64 L) ∧ w'.cell? ⟨pa, 1, none⟩ = some (.slice so3 n3 cp3) ∧ w'.cell? ⟨pb, 0, none⟩ = some (.int .u64 LB) ∧ w'.cell? ⟨pb, 1, none⟩ = some (.slice so4 n4 cp4))
      (first | exact ⟨c0, c1, c2, c3⟩ | exact HC.out _ G9.out | exact HC.out _ G8.out | exact HC.out _ G7.out | exact HC.out _ G6.out | exact HC.out _ G5.out.2 | exact HC.out _ G4.out.2 | exact HC.out _ G3.out | exact HC.out _ G2.out.2 | exact HC.out _ G1.out.2.2)
      (first
        | (go_at_call 25; refine (HS2.out _ _ _ G1.out.2.1 G1.out.1).mono ?_; rintro e w6 ⟨L2, hL2, v6, rfl, hv, hb⟩; have G2 : Hid (IsBits w6 v6 L2 (fun j => decide (y ≤ j) && (decide (x ≤ j - y) && T (j - y - x))) ∧ Below X.heap.size X w6) := ⟨hv, G1.out.2.2.trans (hb.mono G1.out.2.2.size)⟩; clear hv hb hL2)
        | (go_at_call 25; refine (HS1.out _ (Below.refl X.heap.size X).drew).mono ?_; rintro e w5 ⟨L1, hL1, v5, rfl, hv, hb⟩; have G1 : Hid (IsBits w5 v5 L1 (fun j => decide (x ≤ j) && T (j - x)) ∧ L1 ≤ L + x ∧ Below X.heap.size X w5) := ⟨hv, hL1, (Below.refl X.heap.size X).drew.trans hb⟩; clear hv hb hL1)
        | (go_at_call 18; refine (alike_true G5.out.1 (HA.out _ G5.out.2) HY2.out).mono ?_; rintro e w10 ⟨rfl, hb⟩; have G6 : Hid (Below X.heap.size X w10) := Lib.hid (G5.out.2.trans (hb.mono G5.out.2.size)); clear hb)
        | (go_at_call 18; refine (alike_true G2.out.1 (HBb.out _ G2.out.2) HY1.out).mono ?_; rintro e w7 ⟨rfl, hb⟩; have G3 : Hid (Below X.heap.size X w7) := Lib.hid (G2.out.2.trans (hb.mono G2.out.2.size)); clear hb)
        | (go_at_call 40; refine (HR2.out _ _ G4.out.1).mono ?_; rintro e w9 ⟨v9, rfl, hv, hb⟩; have G5 : Hid (IsBits w9 v9 LB (fun j => decide (z ≤ j + y + x) && T (j + y + x - z)) ∧ Below X.heap.size X w9) := ⟨hv, G4.out.2.trans (hb.mono G4.out.2.size)⟩; clear hv hb)
        | (go_at_call 40; refine (HR1.out _ G3.out).mono ?_; rintro e w8 ⟨v8, rfl, hv, hb⟩; have G4 : Hid (IsBits w8 v8 LB (fun j => decide (z ≤ j + x) && T (j + x - z)) ∧ Below X.heap.size X w8) := ⟨hv, G3.out.trans (hb.mono G3.out.size)⟩; clear hv hb)
        | (go_at_call 26; refine (HCb.out _ G8.out).mono ?_; rintro e w13 ⟨rfl, hb⟩; have G9 : Hid (Below X.heap.size X w13) := Lib.hid (G8.out.trans (hb.mono G8.out.size)); clear hb)
        | (go_at_call 26; refine (HCa.out _ G7.out).mono ?_; rintro e w12 ⟨rfl, hb⟩; have G8 : Hid (Below X.heap.size X w12) := Lib.hid (G7.out.trans (hb.mono G7.out.size)); clear hb)
        | (go_at_call 26; refine (HCb.out _ G6.out).mono ?_; rintro e w11 ⟨rfl, hb⟩; have G7 : Hid (Below X.heap.size X w11) := Lib.hid (G6.out.trans (hb.mono G6.out.size)); clear hb))
    go_wp2_with fail
    go_ret
    exact ⟨rfl, HE.out.trans (G9.out.mono HE.out.size)⟩
  · go_enter Try.func10, Try.ntmps10
    go_wp2_with fail
    refine (zzFits3_no _ _ _ _ _ (by omega)).mono ?_
    rintro e w1 ⟨rfl, hb⟩
    have HB : Hid (Below w.heap.size w w1) := ((Below.refl _ _).alloc (Nat.le_refl _) _).trans (hb.mono (by simp))
    clear hb
    go_wp2_with fail
    go_ret
    exact ⟨rfl, HB.out⟩

theorem own : ownKnob Try.prog.godebug = none := by kernel_rfl
theorem laidOut : laidOutB Try.prog = true := by kernel_rfl

set_option maxRecDepth 100000 in
theorem lifted (os : Os) (started : os.Started) (H : Type) (enc : TypeId × Value → H) :
    ReturnsInHanded {} Try.checked os 10 .any (Rows.fnBSDeepShiftSpec.pre6 enc Try.prog Try.f10 Rows.fnBSDeepShiftRow.domain false) (Rows.fnBSDeepShiftSpec.post enc Try.prog Try.f10 false true false false) := by
  refine LawKit.lifted (C := Try.checked) (T := 4) own started (by kernel_rfl) Try.func10 laidOut (by kernel_rfl) (by kernel_rfl) Try.underlying4 rfl ?_
    (ChangeSpec.witness6 (enc := enc) (C := Try.checked) false ⟨#[], #[.agg #[.int .u64 0, .slice none 0 0], .int .u16 0, .int .u16 0, .int .u16 0], []⟩ 8 (by kernel_rfl) (by kernel_rfl) (by kernel_rfl) (by kernel_rfl)) ?_
  · intro ds hd
    match ds, hd with
    | [_, _, _, _], _ => rfl
  · intro W base args ds p hval0 hA0 _
    have hval : ∀ (j : Nat) t v, Try.f10.params[j]? = some t → args[j]? = some v → Value.okWide Try.prog W .any base t v := hval0
    have hA : DataW.TrodAll enc Try.prog W 0 (fun _ => true) true Try.f10.params.toList args.toList ds p := hA0
    rw [Try.params10] at hA hval
    obtain ⟨v0, vs0, d0, ds0, p0, q0, hargs, rfl, rfl, h0, r0⟩ := trodAll_cons hA
    obtain ⟨v1, vs1, d1, ds1, p1, q1, rfl, rfl, rfl, h1, r1⟩ := trodAll_cons r0
    obtain ⟨v2, vs2, d2, ds2, p2, q2, rfl, rfl, rfl, h2, r2⟩ := trodAll_cons r1
    obtain ⟨v3, vs3, d3, ds3, p3, q3, rfl, rfl, rfl, h3, r3⟩ := trodAll_cons r2
    obtain ⟨rfl, rfl, rfl⟩ := trodAll_nil r3
    obtain rfl : args = #[v0, v1, v2, v3] := by cases args; simp_all
    obtain ⟨l0, so0, n0, cp0, xs0, rfl, hl0, hx0⟩ := open_bits (hval 0 25 v0 rfl rfl) h0
    obtain ⟨a1, rfl, rfl, rfl, w1⟩ := open_int Try.underlying26 (hval 1 26 v1 rfl rfl) h1
    have b1 := bounds_u16 w1
    obtain ⟨i1, rfl⟩ : ∃ i : Nat, a1 = (i : Int) := ⟨a1.toNat, by omega⟩
    obtain ⟨a2, rfl, rfl, rfl, w2⟩ := open_int Try.underlying26 (hval 2 26 v2 rfl rfl) h2
    have b2 := bounds_u16 w2
    obtain ⟨i2, rfl⟩ : ∃ i : Nat, a2 = (i : Int) := ⟨a2.toNat, by omega⟩
    obtain ⟨a3, rfl, rfl, rfl, w3⟩ := open_int Try.underlying26 (hval 3 26 v3 rfl rfl) h3
    have b3 := bounds_u16 w3
    obtain ⟨i3, rfl⟩ : ∃ i : Nat, a3 = (i : Int) := ⟨a3.toNat, by omega⟩
    exact walk hx0 i1 i2 i3 hl0 (by omega) (by omega) (by omega)

theorem proved : Rows.FnBSDeepShiftSaid :=
  OpenClaim.holds_of_wide 10 Try.f10 rfl rfl rfl rfl rfl rfl rfl ⟨rfl, rfl, rfl, rfl, rfl⟩ rfl rfl rfl rfl rfl (by kernel_rfl) Try.func10 (by kernel_rfl)
    (of_decide_eq_true (by kernel_rfl)) (by unfold Func.isWrapper; first | (rw [if_pos (by decide +kernel)]; kernel_rfl) | (rw [if_neg (by decide +kernel)]; exact ⟨rfl, rfl⟩))
    (fun os started H enc _ => lifted os started H enc)
#print axioms proved
end Go.Proofs.Ytpmnpaannbhoeaa.LShift
