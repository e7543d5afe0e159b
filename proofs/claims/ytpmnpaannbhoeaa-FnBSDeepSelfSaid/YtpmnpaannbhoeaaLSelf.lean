/- FnBSDeepSelf answers true for every bitset's data and every place. -/
import Derived.Test.YtpmnpaannbhoeaaBsH
import Derived.Test.YtpmnpaannbhoeaaLawKit
import Derived.Test.YtpmnpaannbhoeaaBsArg
namespace Go.Proofs.Ytpmnpaannbhoeaa.LSelf
open Go.RowKit Go.ChangeShapes Go.WideShapes Go.ChangeAt

set_option maxRecDepth 100000 in
set_option maxHeartbeats 2000000 in
theorem walk {w : World} {l : Nat} {so : Option Addr} {n cp : Nat} {xs : List Nat} (hx : 0 < n → Nums .u64 w (.slice so n cp) xs) (at_ : Nat) (hl : l < 18446744073709551616) (hat : at_ < 65536) :
    Calls Try.prog 11 #[.agg #[.int .u64 l, .slice so n cp], .int .u16 at_] w fun e w' => e = .returned (.bool true) ∧ Below w.heap.size w w' := by
  have HX := Lib.hid hx
  clear hx
  by_cases hn : n ≤ 2147483647
  · have hcast : (at_ : Int) % 400 = ((at_ % 400 : Nat) : Int) := rfl
    have hi : at_ % 400 < 400 := Nat.mod_lt _ (by decide)
    obtain ⟨i, hie⟩ : ∃ i, i = at_ % 400 := ⟨_, rfl⟩
    rw [← hie] at hcast hi
    clear hie
    go_enter Try.func11, Try.ntmps11
    go_wp2_with fail
    refine (zzFits3_any _ _ _ _ _ hn).mono ?_
    rintro e w1 ⟨rfl, hb⟩
    have HB : Hid (Below w.heap.size w w1) := ((Below.refl _ _).alloc (Nat.le_refl _) _).trans (hb.mono (by simp))
    have c0 : w1.cell? ⟨w.heap.size, 0, none⟩ = some (.int .u64 l) := (hb.cell (by simp)).trans (by simp)
    have c1 : w1.cell? ⟨w.heap.size, 1, none⟩ = some (.slice so n cp) := (hb.cell (by simp)).trans (by simp)
    clear hb
    go_wp2_with fail
    refine (bsBits_any (fun h => (HX.out h).same HB.out) hn hl).mono ?_
    rintro e w2 ⟨S, v2, rfl, hbits, hb⟩
    have H2 : Hid (IsBits w2 v2 (l % 401) S ∧ Below w.heap.size w w2) := ⟨hbits, HB.out.trans (hb.mono HB.out.size)⟩
    clear hbits hb c0 c1
    obtain ⟨L, hL⟩ : ∃ L, L = max (l % 401) (i + 1) := ⟨_, rfl⟩
    have hs := iSet H2.out.1 i (by omega)
    have hiL : i < L := by omega
    rw [← hL] at hs
    clear hL
    go_wp2_with fail
    refine hs.mono ?_
    rintro e w3 ⟨v3, rfl, hv3, hb3⟩
    obtain ⟨so3, n3, cp3, rfl⟩ := hv3.shape
    obtain ⟨T, hT⟩ : ∃ T : Nat → Bool, T = fun j => S j || decide (i = j) := ⟨_, rfl⟩
    rw [← hT] at hv3
    have hTi : T i = true := by rw [hT]; simp
    have HTi := Lib.hid hTi
    have H3 : Hid (IsBits w3 (.agg #[.int .u64 L, .slice so3 n3 cp3]) L T ∧ Below w.heap.size w w3) := ⟨hv3, H2.out.2.trans (hb3.mono H2.out.2.size)⟩
    clear hv3 hb3 hs hT hTi
    go_wp2_with fail
    have HW : Hid (Below w3.heap.size w3 (w3.alloc (Obj.cells #[Value.int IntKind.u64 ↑L, Value.slice so3 n3 cp3] 25)) ∧ Blk (w3.alloc (Obj.cells #[Value.int IntKind.u64 ↑L, Value.slice so3 n3 cp3] 25)) w3.heap.size #[Value.int IntKind.u64 L, Value.slice so3 n3 cp3] 25) := ⟨(Below.refl _ _).alloc (Nat.le_refl _) _, Blk.new w3 _ _⟩
    generalize w3.alloc (Obj.cells #[Value.int IntKind.u64 ↑L, Value.slice so3 n3 cp3] 25) = W at *
    have HC : Hid (∀ W' : World, Below W.heap.size W W' → W'.cell? ⟨w3.heap.size, 0, none⟩ = some (.int .u64 L) ∧ W'.cell? ⟨w3.heap.size, 1, none⟩ = some (.slice so3 n3 cp3)) := Lib.hid (fun W' hb => by
      have x1 := HW.out.2.below hb HW.out.2.lt
      exact ⟨x1.cell rfl, x1.cell rfl⟩)
    have HA : Hid (∀ W' : World, Below W.heap.size W W' → IsBits W' (.agg #[.int .u64 L, .slice so3 n3 cp3]) L T) := Lib.hid (fun W' hb => H3.out.1.same (HW.out.1.trans (hb.mono HW.out.1.size)))
    have HE : Hid (Below w.heap.size w W) := Lib.hid (H3.out.2.trans (HW.out.1.mono H3.out.2.size))
    obtain ⟨N, hN⟩ : ∃ N, N = cd T L := ⟨_, rfl⟩
    have hN0 : decide (0 < N) = true := by rw [hN]; exact decide_eq_true (cd_pos hiL HTi.out)
    have hCnt : ∀ W' : World, Below W.heap.size W W' → Calls Try.prog 26 #[.agg #[.int .u64 L, .slice so3 n3 cp3]] W' fun e w' => e = .returned (.int .u64 N) ∧ Below W'.heap.size W' w' := fun W' hb => by rw [hN]; exact iCount (HA.out W' hb)
    clear hN
    obtain ⟨c0, c1⟩ := HC.out W (Below.refl _ _)
    go_region_held3 (fun w' => w'.cell? ⟨w3.heap.size, 0, none⟩ = some (.int .u64 L) ∧ w'.cell? ⟨w3.heap.size, 1, none⟩ = some (.slice so3 n3 cp3))
      (first | exact ⟨c0, c1⟩ | exact HC.out _ G12.out | exact HC.out _ G11.out | exact HC.out _ G10.out | exact HC.out _ G9.out | exact HC.out _ G8.out.2 | exact HC.out _ G7.out | exact HC.out _ G6.out.2 | exact HC.out _ G5.out | exact HC.out _ G4.out.2 | exact HC.out _ G3.out | exact HC.out _ G2.out.2 | exact HC.out _ G1.out)
      (first
        | (go_at_call 26; refine (hCnt _ (Below.refl W.heap.size W).drew).mono ?_; rintro e w5 ⟨rfl, hb⟩; have G1 : Hid (Below W.heap.size W w5) := Lib.hid ((Below.refl W.heap.size W).drew.trans hb); clear hb)
        | (go_at_call 24; refine (iUnion (HA.out _ G1.out) (HA.out _ G1.out)).mono ?_; rintro e w6 ⟨v6, rfl, hv, hb⟩; have G2 : Hid (IsBits w6 v6 (max L L) (fun j => T j || T j) ∧ Below W.heap.size W w6) := ⟨hv, G1.out.trans (hb.mono G1.out.size)⟩; clear hv hb)
        | (go_at_call 18; refine (alike_true G4.out.1 (HA.out _ G4.out.2) (fun j => Bool.and_self _)).mono ?_; rintro e w9 ⟨rfl, hb⟩; have G5 : Hid (Below W.heap.size W w9) := Lib.hid (G4.out.2.trans (hb.mono G4.out.2.size)); clear hb)
        | (go_at_call 18; refine (alike_true G2.out.1 (HA.out _ G2.out.2) (fun j => Bool.or_self _)).mono ?_; rintro e w7 ⟨rfl, hb⟩; have G3 : Hid (Below W.heap.size W w7) := Lib.hid (G2.out.2.trans (hb.mono G2.out.2.size)); clear hb)
        | (go_at_call 19; refine (iInter (HA.out _ G3.out) (HA.out _ G3.out)).mono ?_; rintro e w8 ⟨v8, rfl, hv, hb⟩; have G4 : Hid (IsBits w8 v8 (min L L) (fun j => T j && T j) ∧ Below W.heap.size W w8) := ⟨hv, G3.out.trans (hb.mono G3.out.size)⟩; clear hv hb)
        | (go_at_call 37; refine (iDiff (HA.out _ G5.out) (HA.out _ G5.out)).mono ?_; rintro e w10 ⟨v10, rfl, hv, hb⟩; have G6 : Hid (IsBits w10 v10 L (fun j => T j && !T j) ∧ Below W.heap.size W w10) := ⟨hv, G5.out.trans (hb.mono G5.out.size)⟩; clear hv hb)
        | (go_at_call 41; refine (iNone G8.out.1 (fun j => bne_self_eq_false _)).mono ?_; rintro e w13 ⟨rfl, hb⟩; have G9 : Hid (Below W.heap.size W w13) := Lib.hid (G8.out.2.trans (hb.mono G8.out.2.size)); clear hb)
        | (go_at_call 41; refine (iNone G6.out.1 (fun j => Bool.and_not_self _)).mono ?_; rintro e w11 ⟨rfl, hb⟩; have G7 : Hid (Below W.heap.size W w11) := Lib.hid (G6.out.2.trans (hb.mono G6.out.2.size)); clear hb)
        | (go_at_call 34; refine (iIPSymd (HA.out _ G7.out) (HA.out _ G7.out)).mono ?_; rintro e w12 ⟨v12, rfl, hv, hb⟩; have G8 : Hid (IsBits w12 v12 (max L L) (fun j => T j != T j) ∧ Below W.heap.size W w12) := ⟨hv, G7.out.trans (hb.mono G7.out.size)⟩; clear hv hb)
        | (go_at_call 42; refine (iEqual (HA.out _ G9.out) (HA.out _ G9.out)).mono ?_; rintro e w14 ⟨rfl, hb⟩; have G10 : Hid (Below W.heap.size W w14) := Lib.hid (G9.out.trans (hb.mono G9.out.size)); clear hb)
        | (go_at_call 43; refine (iSuper (HA.out _ G10.out) (HA.out _ G10.out)).mono ?_; rintro e w15 ⟨rfl, hb⟩; have G11 : Hid (Below W.heap.size W w15) := Lib.hid (G10.out.trans (hb.mono G10.out.size)); clear hb)
        | (go_at_call 44; refine (iStrict (HA.out _ G11.out) (HA.out _ G11.out)).mono ?_; rintro e w16 ⟨rfl, hb⟩; have G12 : Hid (Below W.heap.size W w16) := Lib.hid (G11.out.trans (hb.mono G11.out.size)); clear hb))
    go_wp2_with fail
    go_ret
    exact ⟨rfl, HE.out.trans (G12.out.mono HE.out.size)⟩
  · go_enter Try.func11, Try.ntmps11
    go_wp2_with fail
    refine (zzFits3_no _ _ _ _ _ (by omega)).mono ?_
    rintro e w1 ⟨rfl, hb⟩
    have HB : Hid (Below w.heap.size w w1) := ((Below.refl _ _).alloc (Nat.le_refl _) _).trans (hb.mono (by simp))
    clear hb
    go_wp2_with fail
    go_ret
    exact ⟨rfl, HB.out⟩

theorem own : ownKnob Try.prog.godebug = none := by kernel_rfl
theorem laidOut : laidOutB Try.prog = true := by kernel_rfl

set_option maxRecDepth 100000 in
theorem lifted (os : Os) (started : os.Started) (H : Type) (enc : TypeId × Value → H) :
    ReturnsInHanded {} Try.checked os 11 .any (Rows.fnBSDeepSelfSpec.pre6 enc Try.prog Try.f11 Rows.fnBSDeepSelfRow.domain false) (Rows.fnBSDeepSelfSpec.post enc Try.prog Try.f11 false true false false) := by
  refine LawKit.lifted (C := Try.checked) (T := 4) own started (by kernel_rfl) Try.func11 laidOut (by kernel_rfl) (by kernel_rfl) Try.underlying4 rfl ?_
    (ChangeSpec.witness6 (enc := enc) (C := Try.checked) false ⟨#[], #[.agg #[.int .u64 0, .slice none 0 0], .int .u16 0], []⟩ 8 (by kernel_rfl) (by kernel_rfl) (by kernel_rfl) (by kernel_rfl)) ?_
  · intro ds hd
    match ds, hd with
    | [_, _], _ => rfl
  · intro W base args ds p hval0 hA0 _
    have hval : ∀ (j : Nat) t v, Try.f11.params[j]? = some t → args[j]? = some v → Value.okWide Try.prog W .any base t v := hval0
    have hA : DataW.TrodAll enc Try.prog W 0 (fun _ => true) true Try.f11.params.toList args.toList ds p := hA0
    rw [Try.params11] at hA hval
    obtain ⟨v0, vs0, d0, ds0, p0, q0, hargs, rfl, rfl, h0, r0⟩ := trodAll_cons hA
    obtain ⟨v1, vs1, d1, ds1, p1, q1, rfl, rfl, rfl, h1, r1⟩ := trodAll_cons r0
    obtain ⟨rfl, rfl, rfl⟩ := trodAll_nil r1
    obtain rfl : args = #[v0, v1] := by cases args; simp_all
    obtain ⟨l0, so0, n0, cp0, xs0, rfl, hl0, hx0⟩ := open_bits (hval 0 25 v0 rfl rfl) h0
    obtain ⟨a1, rfl, rfl, rfl, w1⟩ := open_int Try.underlying26 (hval 1 26 v1 rfl rfl) h1
    have b1 := bounds_u16 w1
    obtain ⟨i1, rfl⟩ : ∃ i : Nat, a1 = (i : Int) := ⟨a1.toNat, by omega⟩
    exact walk hx0 i1 hl0 (by omega)

theorem proved : Rows.FnBSDeepSelfSaid :=
  OpenClaim.holds_of_wide 11 Try.f11 rfl rfl rfl rfl rfl rfl rfl ⟨rfl, rfl, rfl, rfl, rfl⟩ rfl rfl rfl rfl rfl (by kernel_rfl) Try.func11 (by kernel_rfl)
    (of_decide_eq_true (by kernel_rfl)) (by unfold Func.isWrapper; first | (rw [if_pos (by decide +kernel)]; kernel_rfl) | (rw [if_neg (by decide +kernel)]; exact ⟨rfl, rfl⟩))
    (fun os started H enc _ => lifted os started H enc)
#print axioms proved
end Go.Proofs.Ytpmnpaannbhoeaa.LSelf
