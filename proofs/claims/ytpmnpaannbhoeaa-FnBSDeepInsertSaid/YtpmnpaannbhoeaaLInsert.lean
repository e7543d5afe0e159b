/- FnBSDeepInsert answers true for every bitset's data and every two places. -/
import Derived.Test.YtpmnpaannbhoeaaBsO
import Derived.Test.YtpmnpaannbhoeaaBsP
import Derived.Test.YtpmnpaannbhoeaaLawKit
import Derived.Test.YtpmnpaannbhoeaaBsArg
namespace Go.Proofs.Ytpmnpaannbhoeaa.LInsert
open Go.RowKit Go.ChangeShapes Go.WideShapes Go.ChangeAt

theorem cd_ins {T : Nat → Bool} {i L : Nat} (h : i < L) : cd (fun j => ((decide (j < i) && T j) || (decide (i < j) && T (j - 1)))) (L + 1) = cd T L := by
  obtain ⟨d, rfl⟩ : ∃ d, L = i + d := ⟨L - i, by omega⟩
  rw [show i + d + 1 = (i + 1) + d by omega, cd_add, cd_add T i d, cd]
  congr 1
  · rw [cd_congr (T := T) i fun j hj => by rw [decide_eq_true hj, decide_eq_false (show ¬ i < j by omega)]; simp]
    simp
  · exact cd_congr d fun j hj => by
      rw [decide_eq_false (show ¬ i + 1 + j < i by omega), decide_eq_true (show i < i + 1 + j by omega), show i + 1 + j - 1 = i + j by omega]; simp
set_option maxRecDepth 100000 in
set_option maxHeartbeats 2000000 in
theorem walk {w : World} {l : Nat} {so : Option Addr} {n cp : Nat} {xs : List Nat} (hx : 0 < n → Nums .u64 w (.slice so n cp) xs) (at_ by_ : Nat) (hl : l < 18446744073709551616) (hf : at_ < 65536) (hm : by_ < 65536) :
    Calls Try.prog 6 #[.agg #[.int .u64 l, .slice so n cp], .int .u16 at_, .int .u16 by_] w fun e w' => e = .returned (.bool true) ∧ Below w.heap.size w w' := by
  have HX := Lib.hid hx
  clear hx
  by_cases hn : n ≤ 2147483647
  · have hcast : (at_ : Int) % 400 = ((at_ % 400 : Nat) : Int) := rfl
    have hcast2 : (by_ : Int) % 201 = ((by_ % 201 : Nat) : Int) := rfl
    have hi : at_ % 400 < 400 := Nat.mod_lt _ (by decide)
    have hm : by_ % 201 < 201 := Nat.mod_lt _ (by decide)
    obtain ⟨i, hie⟩ : ∃ i, i = at_ % 400 := ⟨_, rfl⟩
    obtain ⟨m, hme⟩ : ∃ i, i = by_ % 201 := ⟨_, rfl⟩
    rw [← hie] at hcast hi
    rw [← hme] at hcast2 hm
    obtain ⟨k, hk⟩ : ∃ k, k = i + m := ⟨_, rfl⟩
    obtain ⟨M, hM⟩ : ∃ M, M = k + 1 := ⟨_, rfl⟩
    have hk1 : (i : Int) + (m : Int) = (k : Int) := by omega
    have hM1 : (k : Int) + 1 = (M : Int) := by omega
    have hik : i ≤ k := by omega
    have hk6 : k ≤ 600 := by omega
    have HM := Lib.hid hM
    clear hie hme hk hM
    go_enter Try.func6, Try.ntmps6
    go_wp2_with fail
    refine (zzFits3_any _ _ _ _ _ hn).mono ?_
    rintro e w1 ⟨rfl, hb⟩
    have HB : Hid (Below w.heap.size w w1) := ((Below.refl _ _).alloc (Nat.le_refl _) _).trans (hb.mono (by simp))
    have c0 : w1.cell? ⟨w.heap.size, 0, none⟩ = some (.int .u64 l) := (hb.cell (by simp)).trans (by simp)
    have c1 : w1.cell? ⟨w.heap.size, 1, none⟩ = some (.slice so n cp) := (hb.cell (by simp)).trans (by simp)
    clear hb
    go_wp2_with fail
    refine (bsBits_any (fun h => (HX.out h).same HB.out) hn hl).mono ?_
    rintro e w2 ⟨S, v2, rfl, hbits, hb⟩
    have H2 : Hid (IsBits w2 v2 (l % 401) S ∧ Below w.heap.size w w2) := ⟨hbits, HB.out.trans (hb.mono HB.out.size)⟩
    clear hbits hb c0 c1
    obtain ⟨L, hL⟩ : ∃ L, L = max (l % 401) (k + 1) := ⟨_, rfl⟩
    have hs := iSet H2.out.1 k (by omega)
    have hiL : i < L := by omega
    have hL5 : L ≤ 700 := by omega
    rw [← hL] at hs
    clear hL
    go_wp2_with fail
    refine hs.mono ?_
    rintro e w3 ⟨v3, rfl, hv3, hb3⟩
    obtain ⟨so3, n3, cp3, rfl⟩ := hv3.shape
    obtain ⟨T, hT⟩ : ∃ T : Nat → Bool, T = fun j => S j || decide (k = j) := ⟨_, rfl⟩
    rw [← hT] at hv3
    have hTk : T k = true := by rw [hT]; simp
    have HTk := Lib.hid hTk
    have H3 : Hid (IsBits w3 (.agg #[.int .u64 L, .slice so3 n3 cp3]) L T ∧ Below w.heap.size w w3) := ⟨hv3, H2.out.2.trans (hb3.mono H2.out.2.size)⟩
    clear hv3 hb3 hs hT hTk
    go_wp2_with fail
    have HW : Hid (Below w.heap.size w (w3.alloc (Obj.cells #[Value.int IntKind.u64 ↑L, Value.slice so3 n3 cp3] 25)) ∧ Blk (w3.alloc (Obj.cells #[Value.int IntKind.u64 ↑L, Value.slice so3 n3 cp3] 25)) w3.heap.size #[Value.int IntKind.u64 L, Value.slice so3 n3 cp3] 25 ∧ IsBits (w3.alloc (Obj.cells #[Value.int IntKind.u64 ↑L, Value.slice so3 n3 cp3] 25)) (.agg #[.int .u64 L, .slice so3 n3 cp3]) L T) := ⟨H3.out.2.alloc H3.out.2.size _, Blk.new w3 _ _, H3.out.1.same ((Below.refl _ _).alloc (Nat.le_refl _) _)⟩
    generalize w3.alloc (Obj.cells #[Value.int IntKind.u64 ↑L, Value.slice so3 n3 cp3] 25) = W at *
    generalize w3.heap.size = pa at *
    obtain ⟨LB, hLB⟩ : ∃ LB, LB = L + 1 := ⟨_, rfl⟩
    have hs := iInsert HW.out.2.2 i hiL (by omega)
    rw [← hLB] at hs
    have HLB := Lib.hid hLB
    clear hLB
    refine hs.mono ?_
    rintro e w4 ⟨v4, rfl, hv4, hb4⟩
    obtain ⟨so4, n4, cp4, rfl⟩ := hv4.shape
    have H4 : Hid (IsBits w4 (.agg #[.int .u64 LB, .slice so4 n4 cp4]) LB (fun j => ((decide (j < i) && T j) || (decide (i < j) && T (j - 1)))) ∧ Below W.heap.size W w4) := ⟨hv4, hb4⟩
    clear hv4 hb4 hs
    go_wp2_with fail
    have HX : Hid (Below W.heap.size W (w4.alloc (Obj.cells #[Value.int IntKind.u64 ↑LB, Value.slice so4 n4 cp4] 25)) ∧ Blk (w4.alloc (Obj.cells #[Value.int IntKind.u64 ↑LB, Value.slice so4 n4 cp4] 25)) w4.heap.size #[Value.int IntKind.u64 LB, Value.slice so4 n4 cp4] 25 ∧ IsBits (w4.alloc (Obj.cells #[Value.int IntKind.u64 ↑LB, Value.slice so4 n4 cp4] 25)) (.agg #[.int .u64 LB, .slice so4 n4 cp4]) LB (fun j => ((decide (j < i) && T j) || (decide (i < j) && T (j - 1))))) := ⟨H4.out.2.alloc H4.out.2.size _, Blk.new w4 _ _, H4.out.1.same ((Below.refl _ _).alloc (Nat.le_refl _) _)⟩
    generalize w4.alloc (Obj.cells #[Value.int IntKind.u64 ↑LB, Value.slice so4 n4 cp4] 25) = X at *
    generalize w4.heap.size = pb at *
    have HC : Hid (∀ W' : World, Below X.heap.size X W' → W'.cell? ⟨pa, 0, none⟩ = some (.int .u64 L) ∧ W'.cell? ⟨pa, 1, none⟩ = some (.slice so3 n3 cp3) ∧ W'.cell? ⟨pb, 0, none⟩ = some (.int .u64 LB) ∧ W'.cell? ⟨pb, 1, none⟩ = some (.slice so4 n4 cp4)) := Lib.hid (fun W' hb => by
      have hb2 := HX.out.1.trans (hb.mono HX.out.1.size)
      have x1 := HW.out.2.1.below hb2 HW.out.2.1.lt
      have x2 := HX.out.2.1.below hb HX.out.2.1.lt
      exact ⟨x1.cell rfl, x1.cell rfl, x2.cell rfl, x2.cell rfl⟩)
    have HA : Hid (∀ W' : World, Below X.heap.size X W' → IsBits W' (.agg #[.int .u64 L, .slice so3 n3 cp3]) L T) := Lib.hid (fun W' hb => HW.out.2.2.same (HX.out.1.trans (hb.mono HX.out.1.size)))
    have HBb : Hid (∀ W' : World, Below X.heap.size X W' → IsBits W' (.agg #[.int .u64 LB, .slice so4 n4 cp4]) LB (fun j => ((decide (j < i) && T j) || (decide (i < j) && T (j - 1))))) := Lib.hid (fun W' hb => HX.out.2.2.same hb)
    have HE : Hid (Below w.heap.size w X) := Lib.hid (HW.out.1.trans (HX.out.1.mono HW.out.1.size))
    have HT1 : Hid (∀ W' : World, Below X.heap.size X W' → Calls Try.prog 16 #[(.agg #[.int .u64 LB, .slice so4 n4 cp4]), .int .u64 M] W' fun e w' => e = .returned (.bool true) ∧ Below W'.heap.size W' w') := Lib.hid (fun W' hb => by
      have := iTest (HBb.out W' hb) M (by have := HM.out; omega)
      rw [show ((decide (M < i) && T M) || (decide (i < M) && T (M - 1))) = true by rw [HM.out, decide_eq_true (show i < k + 1 by omega), show k + 1 - 1 = k by omega, HTk.out]; simp] at this
      exact this)
    have HT2 : Hid (∀ W' : World, Below X.heap.size X W' → Calls Try.prog 16 #[(.agg #[.int .u64 LB, .slice so4 n4 cp4]), .int .u64 i] W' fun e w' => e = .returned (.bool false) ∧ Below W'.heap.size W' w') := Lib.hid (fun W' hb => by
      have := iTest (HBb.out W' hb) i (by omega)
      rw [show ((decide (i < i) && T i) || (decide (i < i) && T (i - 1))) = false by rw [decide_eq_false (Nat.lt_irrefl i)]; rfl] at this
      exact this)
    obtain ⟨N, hN⟩ : ∃ N, N = cd T L := ⟨_, rfl⟩
    have HCa : Hid (∀ W' : World, Below X.heap.size X W' → Calls Try.prog 26 #[(.agg #[.int .u64 L, .slice so3 n3 cp3])] W' fun e w' => e = .returned (.int .u64 N) ∧ Below W'.heap.size W' w') := Lib.hid (fun W' hb => by rw [hN]; exact iCount (HA.out W' hb))
    have HCb : Hid (∀ W' : World, Below X.heap.size X W' → Calls Try.prog 26 #[(.agg #[.int .u64 LB, .slice so4 n4 cp4])] W' fun e w' => e = .returned (.int .u64 N) ∧ Below W'.heap.size W' w') := Lib.hid (fun W' hb => by
      have := iCount (HBb.out W' hb)
      rw [HLB.out, cd_ins hiL] at this
      rw [hN, HLB.out]
      exact this)
    have HD : Hid (∀ W' : World, Below X.heap.size X W' → Calls Try.prog 30 #[(.agg #[.int .u64 LB, .slice so4 n4 cp4]), .int .u64 i] W' (Gives W' L fun j => ((decide (j < i) && ((decide (j < i) && T j) || (decide (i < j) && T (j - 1)))) || (decide (i ≤ j) && ((decide (j + 1 < i) && T (j + 1)) || (decide (i < j + 1) && T (j + 1 - 1))))))) := Lib.hid (fun W' hb => by
      have := iDelete (HBb.out W' hb) i (by have := HLB.out; omega) (by have := HLB.out; omega)
      rwa [show LB - 1 = L by have := HLB.out; omega] at this)
    have HY : Hid (∀ j, ((decide (j < i) && ((decide (j < i) && T j) || (decide (i < j) && T (j - 1)))) || (decide (i ≤ j) && ((decide (j + 1 < i) && T (j + 1)) || (decide (i < j + 1) && T (j + 1 - 1))))) = T j) := Lib.hid (fun j => by
      by_cases h1 : j < i
      · rw [decide_eq_true h1, decide_eq_false (show ¬ i ≤ j by omega), decide_eq_false (show ¬ i < j by omega)]; simp
      · rw [decide_eq_false h1, decide_eq_true (show i ≤ j by omega), decide_eq_false (show ¬ j + 1 < i by omega), decide_eq_true (show i < j + 1 by omega), show j + 1 - 1 = j by omega]; simp)
    clear hN
    have hws : IntKind.u64.wrap (M : Int) = (M : Int) := by have := HM.out; simp [IntKind.wrap, IntKind.bits, IntKind.signed]; omega
    have hws2 : ((N : Int) == (N : Int)) = true := beq_self_eq_true _
    obtain ⟨c0, c1, c2, c3⟩ := HC.out X (Below.refl _ _)
    go_region_held3 (fun w' => w'.cell? ⟨pa, 0, none⟩ = some (.int .u64 L) ∧ w'.cell? ⟨pa, 1, none⟩ = some (.slice so3 n3 cp3) ∧ w'.cell? ⟨pb, 0, none⟩ = some (.int .u64 LB) ∧ w'.cell? ⟨pb, 1, none⟩ = some (.slice so4 n4 cp4))
      (first | exact ⟨c0, c1, c2, c3⟩ | exact HC.out _ G6.out | exact HC.out _ G5.out.2 | exact HC.out _ G4.out | exact HC.out _ G3.out | exact HC.out _ G2.out | exact HC.out _ G1.out)
      (first
        | (go_at_call 16; refine (HT2.out _ G1.out).mono ?_; rintro e w6 ⟨rfl, hb⟩; have G2 : Hid (Below X.heap.size X w6) := Lib.hid (G1.out.trans (hb.mono G1.out.size)); clear hb)
        | (go_at_call 16; refine (HT1.out _ (Below.refl X.heap.size X).drew).mono ?_; rintro e w5 ⟨rfl, hb⟩; have G1 : Hid (Below X.heap.size X w5) := Lib.hid ((Below.refl X.heap.size X).drew.trans hb); clear hb)
        | (go_at_call 26; refine (HCa.out _ G3.out).mono ?_; rintro e w8 ⟨rfl, hb⟩; have G4 : Hid (Below X.heap.size X w8) := Lib.hid (G3.out.trans (hb.mono G3.out.size)); clear hb)
        | (go_at_call 26; refine (HCb.out _ G2.out).mono ?_; rintro e w7 ⟨rfl, hb⟩; have G3 : Hid (Below X.heap.size X w7) := Lib.hid (G2.out.trans (hb.mono G2.out.size)); clear hb)
        | (go_at_call 30; refine (HD.out _ G4.out).mono ?_; rintro e w9 ⟨v9, rfl, hv, hb⟩; have G5 : Hid (IsBits w9 v9 L (fun j => ((decide (j < i) && ((decide (j < i) && T j) || (decide (i < j) && T (j - 1)))) || (decide (i ≤ j) && ((decide (j + 1 < i) && T (j + 1)) || (decide (i < j + 1) && T (j + 1 - 1)))))) ∧ Below X.heap.size X w9) := ⟨hv, G4.out.trans (hb.mono G4.out.size)⟩; clear hv hb)
        | (go_at_call 18; refine (alike_true G5.out.1 (HA.out _ G5.out.2) HY.out).mono ?_; rintro e w10 ⟨rfl, hb⟩; have G6 : Hid (Below X.heap.size X w10) := Lib.hid (G5.out.2.trans (hb.mono G5.out.2.size)); clear hb))
    go_wp2_with fail
    go_ret
    exact ⟨rfl, HE.out.trans (G6.out.mono HE.out.size)⟩
  · go_enter Try.func6, Try.ntmps6
    go_wp2_with fail
    refine (zzFits3_no _ _ _ _ _ (by omega)).mono ?_
    rintro e w1 ⟨rfl, hb⟩
    have HB : Hid (Below w.heap.size w w1) := ((Below.refl _ _).alloc (Nat.le_refl _) _).trans (hb.mono (by simp))
    clear hb
    go_wp2_with fail
    go_ret
    exact ⟨rfl, HB.out⟩

theorem own : ownKnob Try.prog.godebug = none := by kernel_rfl
theorem laidOut : laidOutB Try.prog = true := by kernel_rfl

set_option maxRecDepth 100000 in
theorem lifted (os : Os) (started : os.Started) (H : Type) (enc : TypeId × Value → H) :
    ReturnsInHanded {} Try.checked os 6 .any (Rows.fnBSDeepInsertSpec.pre6 enc Try.prog Try.f6 Rows.fnBSDeepInsertRow.domain false) (Rows.fnBSDeepInsertSpec.post enc Try.prog Try.f6 false true false false) := by
  refine LawKit.lifted (C := Try.checked) (T := 4) own started (by kernel_rfl) Try.func6 laidOut (by kernel_rfl) (by kernel_rfl) Try.underlying4 rfl ?_
    (ChangeSpec.witness6 (enc := enc) (C := Try.checked) false ⟨#[], #[.agg #[.int .u64 0, .slice none 0 0], .int .u16 0, .int .u16 0], []⟩ 8 (by kernel_rfl) (by kernel_rfl) (by kernel_rfl) (by kernel_rfl)) ?_
  · intro ds hd
    match ds, hd with
    | [_, _, _], _ => rfl
  · intro W base args ds p hval0 hA0 _
    have hval : ∀ (j : Nat) t v, Try.f6.params[j]? = some t → args[j]? = some v → Value.okWide Try.prog W .any base t v := hval0
    have hA : DataW.TrodAll enc Try.prog W 0 (fun _ => true) true Try.f6.params.toList args.toList ds p := hA0
    rw [Try.params6] at hA hval
    obtain ⟨v0, vs0, d0, ds0, p0, q0, hargs, rfl, rfl, h0, r0⟩ := trodAll_cons hA
    obtain ⟨v1, vs1, d1, ds1, p1, q1, rfl, rfl, rfl, h1, r1⟩ := trodAll_cons r0
    obtain ⟨v2, vs2, d2, ds2, p2, q2, rfl, rfl, rfl, h2, r2⟩ := trodAll_cons r1
    obtain ⟨rfl, rfl, rfl⟩ := trodAll_nil r2
    obtain rfl : args = #[v0, v1, v2] := by cases args; simp_all
    obtain ⟨l0, so0, n0, cp0, xs0, rfl, hl0, hx0⟩ := open_bits (hval 0 25 v0 rfl rfl) h0
    obtain ⟨a1, rfl, rfl, rfl, w1⟩ := open_int Try.underlying26 (hval 1 26 v1 rfl rfl) h1
    have b1 := bounds_u16 w1
    obtain ⟨i1, rfl⟩ : ∃ i : Nat, a1 = (i : Int) := ⟨a1.toNat, by omega⟩
    obtain ⟨a2, rfl, rfl, rfl, w2⟩ := open_int Try.underlying26 (hval 2 26 v2 rfl rfl) h2
    have b2 := bounds_u16 w2
    obtain ⟨i2, rfl⟩ : ∃ i : Nat, a2 = (i : Int) := ⟨a2.toNat, by omega⟩
    exact walk hx0 i1 i2 hl0 (by omega) (by omega)

theorem proved : Rows.FnBSDeepInsertSaid :=
  OpenClaim.holds_of_wide 6 Try.f6 rfl rfl rfl rfl rfl rfl rfl ⟨rfl, rfl, rfl, rfl, rfl⟩ rfl rfl rfl rfl rfl (by kernel_rfl) Try.func6 (by kernel_rfl)
    (of_decide_eq_true (by kernel_rfl)) (by unfold Func.isWrapper; first | (rw [if_pos (by decide +kernel)]; kernel_rfl) | (rw [if_neg (by decide +kernel)]; exact ⟨rfl, rfl⟩))
    (fun os started H enc _ => lifted os started H enc)
#print axioms proved
end Go.Proofs.Ytpmnpaannbhoeaa.LInsert
