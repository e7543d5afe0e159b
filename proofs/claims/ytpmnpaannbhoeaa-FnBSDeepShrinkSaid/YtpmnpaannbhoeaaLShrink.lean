/- FnBSDeepShrink answers true for every bitset's data and every place. -/
import Derived.Test.YtpmnpaannbhoeaaBsC
import Derived.Test.YtpmnpaannbhoeaaLawKit
import Derived.Test.YtpmnpaannbhoeaaBsArg
namespace Go.Proofs.Ytpmnpaannbhoeaa.LShrink
open Go.RowKit Go.ChangeShapes Go.WideShapes Go.ChangeAt

/-- The lists of two bitsets with the same bits are one. -/
theorem lists_eq {la lb : Nat} {S S' : Nat → Bool} (ha : ∀ j, la ≤ j → S j = false) (hb : ∀ j, lb ≤ j → S' j = false) (h : ∀ j, S j = S' j) : (List.range la).filter S = (List.range lb).filter S' := by
  have e : S = S' := funext h
  subst e
  have key : ∀ a b, a ≤ b → (∀ j, a ≤ j → S j = false) → (List.range b).filter S = (List.range a).filter S := by
    intro a b hab hz
    obtain ⟨d, rfl⟩ : ∃ d, b = a + d := ⟨b - a, by omega⟩
    clear hab
    induction d with
    | zero => rfl
    | succ d ih => rw [← Nat.add_assoc, filter_succ, ih, hz (a + d) (by omega)]; simp
  rcases Nat.le_total la lb with h | h
  · exact (key la lb h ha).symm
  · exact key lb la h hb

set_option maxRecDepth 100000 in
set_option maxHeartbeats 1000000 in
theorem walk {w : World} {l : Nat} {so : Option Addr} {n cp : Nat} {xs : List Nat} (hx : 0 < n → Nums .u64 w (.slice so n cp) xs) (at_ : Nat) (hl : l < 18446744073709551616) (hat : at_ < 65536) :
    Calls Try.prog 3 #[.agg #[.int .u64 l, .slice so n cp], .int .u16 at_] w fun e w' => e = .returned (.bool true) ∧ Below w.heap.size w w' := by
  have HX := Lib.hid hx
  clear hx
  by_cases hn : n ≤ 2147483647
  · have hcast : (at_ : Int) % 400 = ((at_ % 400 : Nat) : Int) := rfl
    have hi : at_ % 400 < 400 := Nat.mod_lt _ (by decide)
    obtain ⟨i, hie⟩ : ∃ i, i = at_ % 400 := ⟨_, rfl⟩
    rw [← hie] at hcast hi
    clear hie
    go_enter Try.func3, Try.ntmps3
    go_wp2_with fail
    refine (zzFits3_any _ _ _ _ _ hn).mono ?_
    rintro e w1 ⟨rfl, hb⟩
    have HB : Hid (Below w.heap.size w w1) := ((Below.refl _ _).alloc (Nat.le_refl _) _).trans (hb.mono (by simp))
    have c0 : w1.cell? ⟨w.heap.size, 0, none⟩ = some (.int .u64 l) := (hb.cell (by simp)).trans (by simp)
    have c1 : w1.cell? ⟨w.heap.size, 1, none⟩ = some (.slice so n cp) := (hb.cell (by simp)).trans (by simp)
    clear hb
    go_wp2_with fail
    refine (bsBits_any (fun h => (HX.out h).same HB.out) hn hl).mono ?_
    rintro e w2 ⟨S, v2, rfl, hbits, hb⟩
    have H2 : Hid (IsBits w2 v2 (l % 401) S ∧ Below w.heap.size w w2) := ⟨hbits, HB.out.trans (hb.mono HB.out.size)⟩
    clear hbits hb c0 c1
    obtain ⟨L, hL⟩ : ∃ L, L = max (l % 401) (i + 1) := ⟨_, rfl⟩
    have hs := iSet H2.out.1 i (by omega)
    have hiL : i < L := by omega
    rw [← hL] at hs
    have HL := Lib.hid hL
    clear hL
    obtain ⟨M, hM⟩ : ∃ M, M = i + 1 := ⟨_, rfl⟩
    have HM := Lib.hid hM
    clear hM
    go_wp2_with fail
    refine hs.mono ?_
    rintro e w3 ⟨v3, rfl, hv3, hb3⟩
    obtain ⟨so3, n3, cp3, rfl⟩ := hv3.shape
    have H3 : Hid (IsBits w3 (.agg #[.int .u64 L, .slice so3 n3 cp3]) L (fun j => S j || decide (i = j)) ∧ Below w.heap.size w w3) := ⟨hv3, H2.out.2.trans (hb3.mono H2.out.2.size)⟩
    clear hv3 hb3 hs
    have hs : ∀ W, Below w3.heap.size w3 W → Calls Try.prog 15 #[.agg #[.int .u64 L, .slice so3 n3 cp3], .int .u64 i] W (Gives W M fun j => decide (j < M) && (S j || decide (i = j))) := fun W hb => by
      have := iShrink (H3.out.1.same hb) i hiL
      rwa [← HM.out] at this
    go_wp2_with fail
    refine (hs _ ((Below.refl _ _).alloc (Nat.le_refl _) _)).mono ?_
    rintro e w4 ⟨v4, rfl, hv4, hb4⟩
    obtain ⟨so4, n4, cp4, rfl⟩ := hv4.shape
    have K1 : Blk w4 w3.heap.size #[Value.int IntKind.u64 L, Value.slice so3 n3 cp3] 25 := (Blk.new w3 _ _).below hb4 (by simp)
    have K2 : Below w3.heap.size w3 w4 := ((Below.refl _ _).alloc (Nat.le_refl _) _).trans (hb4.mono (by simp))
    have H4 : Hid (IsBits w4 (.agg #[.int .u64 M, .slice so4 n4 cp4]) M (fun j => decide (j < M) && (S j || decide (i = j))) ∧ Below w3.heap.size w3 w4 ∧ Blk w4 w3.heap.size #[Value.int IntKind.u64 L, Value.slice so3 n3 cp3] 25) := ⟨hv4, K2, K1⟩
    clear hv4 hb4 hs K1 K2
    go_wp2_with fail
    have HW : Hid (Below w4.heap.size w4 (w4.alloc (Obj.cells #[Value.int IntKind.u64 ↑M, Value.slice so4 n4 cp4] 25)) ∧ Blk (w4.alloc (Obj.cells #[Value.int IntKind.u64 ↑M, Value.slice so4 n4 cp4] 25)) w3.heap.size #[Value.int IntKind.u64 L, Value.slice so3 n3 cp3] 25 ∧ Blk (w4.alloc (Obj.cells #[Value.int IntKind.u64 ↑M, Value.slice so4 n4 cp4] 25)) w4.heap.size #[Value.int IntKind.u64 M, Value.slice so4 n4 cp4] 25) := ⟨(Below.refl _ _).alloc (Nat.le_refl _) _, H4.out.2.2.alloc _, Blk.new w4 _ _⟩
    generalize w4.alloc (Obj.cells #[Value.int IntKind.u64 ↑M, Value.slice so4 n4 cp4] 25) = W at *
    have HC : Hid (∀ W' : World, Below W.heap.size W W' → W'.cell? ⟨w3.heap.size, 0, none⟩ = some (.int .u64 L) ∧ W'.cell? ⟨w3.heap.size, 1, none⟩ = some (.slice so3 n3 cp3) ∧ W'.cell? ⟨w4.heap.size, 0, none⟩ = some (.int .u64 M) ∧ W'.cell? ⟨w4.heap.size, 1, none⟩ = some (.slice so4 n4 cp4)) := Lib.hid (fun W' hb => by
      have x1 := HW.out.2.1.below hb HW.out.2.1.lt
      have x2 := HW.out.2.2.below hb HW.out.2.2.lt
      exact ⟨x1.cell rfl, x1.cell rfl, x2.cell rfl, x2.cell rfl⟩)
    have HA : Hid (∀ W' : World, Below W.heap.size W W' → IsBits W' (.agg #[.int .u64 L, .slice so3 n3 cp3]) L (fun j => S j || decide (i = j))) := Lib.hid (fun W' hb => H3.out.1.same (H4.out.2.1.trans ((HW.out.1.trans (hb.mono HW.out.1.size)).mono H4.out.2.1.size)))
    have HBb : Hid (∀ W' : World, Below W.heap.size W W' → IsBits W' (.agg #[.int .u64 M, .slice so4 n4 cp4]) M (fun j => decide (j < M) && (S j || decide (i = j)))) := Lib.hid (fun W' hb => H4.out.1.same (HW.out.1.trans (hb.mono HW.out.1.size)))
    have HE : Hid (Below w.heap.size w W) := Lib.hid (H3.out.2.trans ((H4.out.2.1.trans (HW.out.1.mono H4.out.2.1.size)).mono H3.out.2.size))
    have hT : ∀ W' : World, Below W.heap.size W W' → Calls Try.prog 16 #[.agg #[.int .u64 M, .slice so4 n4 cp4], .int .u64 i] W' fun e w' => e = .returned (.bool true) ∧ Below W'.heap.size W' w' := fun W' hb => by
      have := iTest (HBb.out W' hb) i (by omega)
      rw [HM.out] at this
      rw [HM.out]
      simpa using this
    have hL : ∀ W' : World, Below W.heap.size W W' → Calls Try.prog 17 #[.agg #[.int .u64 M, .slice so4 n4 cp4]] W' fun e w' => e = .returned (.int .u64 ((i : Int) + 1)) ∧ Below W'.heap.size W' w' := fun W' hb => by
      have := iLen (HBb.out W' hb)
      have e : (M : Int) = (i : Int) + 1 := by have := HM.out; omega
      rw [e] at this
      rw [e]
      exact this
    have hN : ∀ W' : World, Calls Try.prog 21 #[.int .u64 ((i : Int) + 1)] W' (Gives W' M fun _ => false) := fun W' => by
      have e : (i : Int) + 1 = (M : Int) := by have := HM.out; omega
      rw [e]
      exact iNew M W' (by have := HM.out; omega)
    have hK : ∀ (W' : World) (v : Value), Below W.heap.size W W' → IsBits W' v (min L M) (fun j => (S j || decide (i = j)) && decide (j < M)) → Calls Try.prog 18 #[.agg #[.int .u64 M, .slice so4 n4 cp4], v] W' fun e w' => e = .returned (.bool true) ∧ Below W'.heap.size W' w' := fun W' v hb hv => by
      have h1 := alike_any (HBb.out W' hb) hv
      rw [decide_eq_true (lists_eq (HBb.out W' hb).out hv.out fun j => Bool.and_comm _ _)] at h1
      exact h1
    have hw1 : IntKind.u64.wrap ((i : Int) + 1) = (i : Int) + 1 := by simp [IntKind.wrap, IntKind.bits, IntKind.signed]; omega
    have hw2 : ((i : Int) + 1 == IntKind.u64.wrap ((i : Int) + 1)) = true := by rw [hw1]; exact beq_self_eq_true _
    have Hc := HC.out W (Below.refl _ _)
    obtain ⟨c0, c1, c2, c3⟩ := Hc
    go_region_held3 (fun w' => w'.cell? ⟨w3.heap.size, 0, none⟩ = some (.int .u64 L) ∧ w'.cell? ⟨w3.heap.size, 1, none⟩ = some (.slice so3 n3 cp3) ∧ w'.cell? ⟨w4.heap.size, 0, none⟩ = some (.int .u64 M) ∧ w'.cell? ⟨w4.heap.size, 1, none⟩ = some (.slice so4 n4 cp4))
      (first | exact ⟨c0, c1, c2, c3⟩ | exact HC.out _ G6.out | exact HC.out _ G5.out.2 | exact HC.out _ G4.out.2 | exact HC.out _ G3.out.2 | exact HC.out _ G2.out | exact HC.out _ G1.out)
      (first
        | (go_at_call 16; refine (hT _ (Below.refl W.heap.size W).drew).mono ?_; rintro e w5 ⟨rfl, hb5⟩; have G1 : Hid (Below W.heap.size W w5) := Lib.hid ((Below.refl W.heap.size W).drew.trans hb5); clear hb5)
        | (go_at_call 17; refine (hL _ G1.out).mono ?_; rintro e w6 ⟨rfl, hb6⟩; have G2 : Hid (Below W.heap.size W w6) := Lib.hid (G1.out.trans (hb6.mono G1.out.size)); clear hb6)
        | (go_at_call 21; refine (hN _).mono ?_; rintro e w7 ⟨v7, rfl, hv7, hb7⟩; have G3 : Hid (IsBits w7 v7 M (fun _ => false) ∧ Below W.heap.size W w7) := ⟨hv7, G2.out.trans (hb7.mono G2.out.size)⟩; clear hv7 hb7)
        | (go_at_call 20; refine (iSetAll G3.out.1).mono ?_; rintro e w8 ⟨v8, rfl, hv8, hb8⟩; have G4 : Hid (IsBits w8 v8 M (fun j => decide (j < M)) ∧ Below W.heap.size W w8) := ⟨hv8, G3.out.2.trans (hb8.mono G3.out.2.size)⟩; clear hv8 hb8)
        | (go_at_call 19; refine (iInter (HA.out _ G4.out.2) G4.out.1).mono ?_; rintro e w9 ⟨v9, rfl, hv9, hb9⟩; have G5 : Hid (IsBits w9 v9 (min L M) (fun j => (S j || decide (i = j)) && decide (j < M)) ∧ Below W.heap.size W w9) := ⟨hv9, G4.out.2.trans (hb9.mono G4.out.2.size)⟩; clear hv9 hb9)
        | (go_at_call 18; refine (hK _ _ G5.out.2 G5.out.1).mono ?_; rintro e w10 ⟨rfl, hb10⟩; have G6 : Hid (Below W.heap.size W w10) := Lib.hid (G5.out.2.trans (hb10.mono G5.out.2.size)); clear hb10))
    go_wp2_with fail
    go_ret
    exact ⟨rfl, HE.out.trans (G6.out.mono HE.out.size)⟩
  · go_enter Try.func3, Try.ntmps3
    go_wp2_with fail
    refine (zzFits3_no _ _ _ _ _ (by omega)).mono ?_
    rintro e w1 ⟨rfl, hb⟩
    have HB : Hid (Below w.heap.size w w1) := ((Below.refl _ _).alloc (Nat.le_refl _) _).trans (hb.mono (by simp))
    clear hb
    go_wp2_with fail
    go_ret
    exact ⟨rfl, HB.out⟩

theorem own : ownKnob Try.prog.godebug = none := by kernel_rfl
theorem laidOut : laidOutB Try.prog = true := by kernel_rfl

set_option maxRecDepth 100000 in
theorem lifted (os : Os) (started : os.Started) (H : Type) (enc : TypeId × Value → H) :
    ReturnsInHanded {} Try.checked os 3 .any (Rows.fnBSDeepShrinkSpec.pre6 enc Try.prog Try.f3 Rows.fnBSDeepShrinkRow.domain false) (Rows.fnBSDeepShrinkSpec.post enc Try.prog Try.f3 false true false false) := by
  refine LawKit.lifted (C := Try.checked) (T := 4) own started (by kernel_rfl) Try.func3 laidOut (by kernel_rfl) (by kernel_rfl) Try.underlying4 rfl ?_
    (ChangeSpec.witness6 (enc := enc) (C := Try.checked) false ⟨#[], #[.agg #[.int .u64 0, .slice none 0 0], .int .u16 0], []⟩ 8 (by kernel_rfl) (by kernel_rfl) (by kernel_rfl) (by kernel_rfl)) ?_
  · intro ds hd
    match ds, hd with
    | [_, _], _ => rfl
  · intro W base args ds p hval0 hA0 _
    have hval : ∀ (j : Nat) t v, Try.f3.params[j]? = some t → args[j]? = some v → Value.okWide Try.prog W .any base t v := hval0
    have hA : DataW.TrodAll enc Try.prog W 0 (fun _ => true) true Try.f3.params.toList args.toList ds p := hA0
    rw [Try.params3] at hA hval
    obtain ⟨v0, vs0, d0, ds0, p0, q0, hargs, rfl, rfl, h0, r0⟩ := trodAll_cons hA
    obtain ⟨v1, vs1, d1, ds1, p1, q1, rfl, rfl, rfl, h1, r1⟩ := trodAll_cons r0
    obtain ⟨rfl, rfl, rfl⟩ := trodAll_nil r1
    obtain rfl : args = #[v0, v1] := by cases args; simp_all
    obtain ⟨l, so, n, cp, xs, rfl, hl, hx⟩ := open_bits (hval 0 25 v0 rfl rfl) h0
    obtain ⟨a1, rfl, rfl, rfl, w1⟩ := open_int Try.underlying26 (hval 1 26 v1 rfl rfl) h1
    have b1 := bounds_u16 w1
    obtain ⟨i, rfl⟩ : ∃ i : Nat, a1 = (i : Int) := ⟨a1.toNat, by omega⟩
    exact walk hx i hl (by omega)

theorem proved : Rows.FnBSDeepShrinkSaid :=
  OpenClaim.holds_of_wide 3 Try.f3 rfl rfl rfl rfl rfl rfl rfl ⟨rfl, rfl, rfl, rfl, rfl⟩ rfl rfl rfl rfl rfl (by kernel_rfl) Try.func3 (by kernel_rfl)
    (of_decide_eq_true (by kernel_rfl)) (by unfold Func.isWrapper; first | (rw [if_pos (by decide +kernel)]; kernel_rfl) | (rw [if_neg (by decide +kernel)]; exact ⟨rfl, rfl⟩))
    (fun os started H enc _ => lifted os started H enc)
#print axioms proved
end Go.Proofs.Ytpmnpaannbhoeaa.LShrink
