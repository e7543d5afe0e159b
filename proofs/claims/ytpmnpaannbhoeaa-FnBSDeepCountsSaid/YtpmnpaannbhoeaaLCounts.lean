/- FnBSDeepCounts answers true for every bitset's data and every place. -/
import Derived.Test.YtpmnpaannbhoeaaBsJ
import Derived.Test.YtpmnpaannbhoeaaLawKit
import Derived.Test.YtpmnpaannbhoeaaBsArg
namespace Go.Proofs.Ytpmnpaannbhoeaa.LCounts
open Go.RowKit Go.ChangeShapes Go.WideShapes Go.ChangeAt

set_option maxRecDepth 100000 in
set_option maxHeartbeats 2000000 in
theorem walk {w : World} {l : Nat} {so : Option Addr} {n cp : Nat} {xs : List Nat} (hx : 0 < n → Nums .u64 w (.slice so n cp) xs) (at_ : Nat) (hl : l < 18446744073709551616) (hat : at_ < 65536) :
    Calls Try.prog 5 #[.agg #[.int .u64 l, .slice so n cp], .int .u16 at_] w fun e w' => e = .returned (.bool true) ∧ Below w.heap.size w w' := by
  have HX := Lib.hid hx
  clear hx
  by_cases hn : n ≤ 2147483647
  · have hcast : (at_ : Int) % 500 = ((at_ % 500 : Nat) : Int) := rfl
    have hi : at_ % 500 < 500 := Nat.mod_lt _ (by decide)
    obtain ⟨i, hie⟩ : ∃ i, i = at_ % 500 := ⟨_, rfl⟩
    rw [← hie] at hcast hi
    clear hie
    go_enter Try.func5, Try.ntmps5
    go_wp2_with fail
    refine (zzFits3_any _ _ _ _ _ hn).mono ?_
    rintro e w1 ⟨rfl, hb⟩
    have HB : Hid (Below w.heap.size w w1) := ((Below.refl _ _).alloc (Nat.le_refl _) _).trans (hb.mono (by simp))
    have c0 : w1.cell? ⟨w.heap.size, 0, none⟩ = some (.int .u64 l) := (hb.cell (by simp)).trans (by simp)
    have c1 : w1.cell? ⟨w.heap.size, 1, none⟩ = some (.slice so n cp) := (hb.cell (by simp)).trans (by simp)
    clear hb
    go_wp2_with fail
    refine (bsBits_any (fun h => (HX.out h).same HB.out) hn hl).mono ?_
    rintro e w2 ⟨S, v2, rfl, hbits, hb⟩
    have H2 : Hid (IsBits w2 v2 (l % 401) S ∧ Below w.heap.size w w2) := ⟨hbits, HB.out.trans (hb.mono HB.out.size)⟩
    clear hbits hb c0 c1
    obtain ⟨M, hM⟩ : ∃ M, M = l % 401 := ⟨_, rfl⟩
    have hM4 : M ≤ 400 := by rw [hM]; omega
    rw [← hM] at H2
    clear hM
    obtain ⟨so2, n2, cp2, rfl⟩ := H2.out.1.shape
    go_wp2_with fail
    have HW : Hid (Below w2.heap.size w2 (w2.alloc (Obj.cells #[Value.int IntKind.u64 ↑M, Value.slice so2 n2 cp2] 25)) ∧ Blk (w2.alloc (Obj.cells #[Value.int IntKind.u64 ↑M, Value.slice so2 n2 cp2] 25)) w2.heap.size #[Value.int IntKind.u64 M, Value.slice so2 n2 cp2] 25) := ⟨(Below.refl _ _).alloc (Nat.le_refl _) _, Blk.new w2 _ _⟩
    generalize w2.alloc (Obj.cells #[Value.int IntKind.u64 ↑M, Value.slice so2 n2 cp2] 25) = W at *
    have HC : Hid (∀ W' : World, Below W.heap.size W W' → W'.cell? ⟨w2.heap.size, 0, none⟩ = some (.int .u64 M) ∧ W'.cell? ⟨w2.heap.size, 1, none⟩ = some (.slice so2 n2 cp2)) := Lib.hid (fun W' hb => by
      have x1 := HW.out.2.below hb HW.out.2.lt
      exact ⟨x1.cell rfl, x1.cell rfl⟩)
    have HA : Hid (∀ W' : World, Below W.heap.size W W' → IsBits W' (.agg #[.int .u64 M, .slice so2 n2 cp2]) M S) := Lib.hid (fun W' hb => H2.out.1.same (HW.out.1.trans (hb.mono HW.out.1.size)))
    have HE : Hid (Below w.heap.size w W) := Lib.hid (H2.out.2.trans (HW.out.1.mono H2.out.2.size))
    have hout : ∀ j, M ≤ j → S j = false := H2.out.1.out
    obtain ⟨N, hN⟩ : ∃ N, N = cd S M := ⟨_, rfl⟩
    obtain ⟨q1, hq1⟩ : ∃ q, q = cd S i := ⟨_, rfl⟩
    obtain ⟨q2, hq2⟩ : ∃ q, q = cd S 1000 - cd S i := ⟨_, rfl⟩
    have hNle : N ≤ 400 := by rw [hN]; have := cd_le S M; omega
    have hq12 : q1 + q2 = N := by
      have h1 := cd_mono (S := S) (show i ≤ 1000 by omega)
      have h2 := cd_more (S := S) (show M ≤ 1000 by omega) hout
      omega
    have hCnt : ∀ W' : World, Below W.heap.size W W' → Calls Try.prog 26 #[(.agg #[.int .u64 M, .slice so2 n2 cp2])] W' fun e w' => e = .returned (.int .u64 N) ∧ Below W'.heap.size W' w' := fun W' hb => by rw [hN]; exact iCount (HA.out W' hb)
    have hB1 : ∀ W' : World, Below W.heap.size W W' → Calls Try.prog 28 #[(.agg #[.int .u64 M, .slice so2 n2 cp2]), .int .u64 0, .int .u64 i] W' fun e w' => e = .returned (.int .u64 q1) ∧ Below W'.heap.size W' w' := fun W' hb => by
      have := iBetween (HA.out W' hb) 0 i (by omega) (by omega)
      rw [hq1]
      exact this
    have hB2 : ∀ W' : World, Below W.heap.size W W' → Calls Try.prog 28 #[(.agg #[.int .u64 M, .slice so2 n2 cp2]), .int .u64 i, .int .u64 1000] W' fun e w' => e = .returned (.int .u64 q2) ∧ Below W'.heap.size W' w' := fun W' hb => by
      rw [hq2]
      exact iBetween (HA.out W' hb) i 1000 (by omega) (by omega)
    have hRk : 0 < i → ∀ m, i = m + 1 → ∀ W' : World, Below W.heap.size W W' → Calls Try.prog 27 #[(.agg #[.int .u64 M, .slice so2 n2 cp2]), .int .u64 m] W' fun e w' => e = .returned (.int .u64 q1) ∧ Below W'.heap.size W' w' := fun _ m hm W' hb => by
      have := iRank (HA.out W' hb) m (by omega)
      rw [← hm, ← hq1] at this
      exact this
    have hSet : ∀ W' : World, Below W.heap.size W W' → Calls Try.prog 13 #[(.agg #[.int .u64 M, .slice so2 n2 cp2]), .int .u64 600] W' (Gives W' 601 fun j => S j || decide (600 = j)) := fun W' hb => by
      have := iSet (HA.out W' hb) 600 (by decide)
      rw [Nat.max_eq_right (show M ≤ 600 + 1 by omega)] at this
      exact this
    have hN1 : cd (fun j => S j || decide (600 = j)) 601 = N + 1 := by
      rw [cd, hout 600 (by omega), cd_congr (T := S) 600 fun j hj => by rw [decide_eq_false (show ¬ 600 = j by omega), Bool.or_false], cd_more (S := S) (show M ≤ 600 by omega) hout, ← hN]
      rfl
    have hCnt2 : ∀ (W' : World) (v : Value), IsBits W' v 601 (fun j => S j || decide (600 = j)) → Calls Try.prog 26 #[v] W' fun e w' => e = .returned (.int .u64 ((N : Int) + 1)) ∧ Below W'.heap.size W' w' := fun W' v hv => by
      have := iCount hv
      rw [hN1] at this
      exact this
    have HH : Hid ((∀ m, i = m + 1 → ∀ W' : World, Below W.heap.size W W' → Calls Try.prog 27 #[(.agg #[.int .u64 M, .slice so2 n2 cp2]), .int .u64 m] W' fun e w' => e = .returned (.int .u64 q1) ∧ Below W'.heap.size W' w')) := Lib.hid (fun m hm => hRk (by omega) m hm)
    clear hN hq1 hq2 hN1 hRk hout
    obtain ⟨c0, c1⟩ := HC.out W (Below.refl _ _)
    refine (hCnt _ (Below.refl _ _)).mono ?_
    rintro e w3 ⟨rfl, hb⟩
    have F1 := Lib.hid hb
    clear hb c0 c1
    obtain ⟨c0, c1⟩ := HC.out _ F1.out
    have hwN : IntKind.u64.wrap ((N : Int) + 1) = (N : Int) + 1 := by simp [IntKind.wrap, IntKind.bits, IntKind.signed]; omega
    have hwN2 : ((N : Int) + 1 == IntKind.u64.wrap ((N : Int) + 1)) = true := by rw [hwN]; exact beq_self_eq_true _
    have hws : IntKind.u64.wrap ((q1 : Int) + (q2 : Int)) = (N : Int) := by simp [IntKind.wrap, IntKind.bits, IntKind.signed]; omega
    have hws2 : (IntKind.u64.wrap ((q1 : Int) + (q2 : Int)) == (N : Int)) = true := by rw [hws]; exact beq_self_eq_true _
    have hws3 : ((N : Int) == (N : Int)) = true := beq_self_eq_true _
    go_wp2_with fail
    by_cases hi0 : i = 0
    · have g0 : decide (0 < i) = false := decide_eq_false (by omega)
      clear hi0
      go_quiet (fail)
      have F2 : Hid (Below W.heap.size W (w3.drewN nq)) := Lib.hid (below_drewN F1.out nq)
      generalize w3.drewN nq = w4 at *
      clear c0 c1
      obtain ⟨c0, c1⟩ := HC.out _ F2.out
      go_wp2_with fail
      go_region_held3 (fun w' => w'.cell? ⟨w2.heap.size, 0, none⟩ = some (.int .u64 M) ∧ w'.cell? ⟨w2.heap.size, 1, none⟩ = some (.slice so2 n2 cp2))
        (first | exact ⟨c0, c1⟩ | exact HC.out _ G4.out | exact HC.out _ G3.out.2 | exact HC.out _ G2.out | exact HC.out _ G1.out)
        (first
          | (go_at_call 28; refine (hB2 _ G1.out).mono ?_; rintro e w6 ⟨rfl, hb⟩; have G2 : Hid (Below W.heap.size W w6) := Lib.hid (G1.out.trans (hb.mono G1.out.size)); clear hb)
          | (go_at_call 28; refine (hB1 _ F2.out.drew).mono ?_; rintro e w7 ⟨rfl, hb⟩; have G1 : Hid (Below W.heap.size W w7) := Lib.hid (F2.out.drew.trans (hb.mono F2.out.size)); clear hb)
          | (go_at_call 13; refine (hSet _ G2.out).mono ?_; rintro e w8 ⟨v8, rfl, hv, hb⟩; have G3 : Hid (IsBits w8 v8 601 (fun j => S j || decide (600 = j)) ∧ Below W.heap.size W w8) := ⟨hv, G2.out.trans (hb.mono G2.out.size)⟩; clear hv hb)
          | (go_at_call 26; refine (hCnt2 _ _ G3.out.1).mono ?_; rintro e w9 ⟨rfl, hb⟩; have G4 : Hid (Below W.heap.size W w9) := Lib.hid (G3.out.2.trans (hb.mono G3.out.2.size)); clear hb))
      go_wp2_with fail
      go_ret
      exact ⟨rfl, HE.out.trans (G4.out.mono HE.out.size)⟩
    · have g0 : decide (0 < i) = true := decide_eq_true (by omega)
      obtain ⟨m, hm⟩ : ∃ m, i = m + 1 := ⟨i - 1, by omega⟩
      clear hi0
      have hm1 : (i : Int) - 1 = (m : Int) := by omega
      have hm2 : IntKind.u64.wrap ((i : Int) - 1) = (m : Int) := by rw [hm1]; simp [IntKind.wrap, IntKind.bits, IntKind.signed]; omega
      have hm3 : IntKind.u64.wrap (m : Int) = (m : Int) := by simp [IntKind.wrap, IntKind.bits, IntKind.signed]; omega
      have hRk := HH.out m hm
      clear hm
      go_region_held3 (fun w' => w'.cell? ⟨w2.heap.size, 0, none⟩ = some (.int .u64 M) ∧ w'.cell? ⟨w2.heap.size, 1, none⟩ = some (.slice so2 n2 cp2))
        (first | exact ⟨c0, c1⟩ | exact HC.out _ R2.out | exact HC.out _ R1.out)
        (first
          | (go_at_call 27; refine (hRk _ F1.out.drew).mono ?_; rintro e w4 ⟨rfl, hb⟩; have R1 : Hid (Below W.heap.size W w4) := Lib.hid (F1.out.drew.trans (hb.mono F1.out.size)); clear hb)
          | (go_at_call 28; refine (hB1 _ R1.out).mono ?_; rintro e w5 ⟨rfl, hb⟩; have R2 : Hid (Below W.heap.size W w5) := Lib.hid (R1.out.trans (hb.mono R1.out.size)); clear hb))
      have F2 := R2
      clear hm1 hm2 hm3 hRk
      generalize w5 = w4 at *
      clear c0 c1
      obtain ⟨c0, c1⟩ := HC.out _ F2.out
      go_wp2_with fail
      go_region_held3 (fun w' => w'.cell? ⟨w2.heap.size, 0, none⟩ = some (.int .u64 M) ∧ w'.cell? ⟨w2.heap.size, 1, none⟩ = some (.slice so2 n2 cp2))
        (first | exact ⟨c0, c1⟩ | exact HC.out _ G4.out | exact HC.out _ G3.out.2 | exact HC.out _ G2.out | exact HC.out _ G1.out)
        (first
          | (go_at_call 28; refine (hB2 _ G1.out).mono ?_; rintro e w6 ⟨rfl, hb⟩; have G2 : Hid (Below W.heap.size W w6) := Lib.hid (G1.out.trans (hb.mono G1.out.size)); clear hb)
          | (go_at_call 28; refine (hB1 _ F2.out.drew).mono ?_; rintro e w7 ⟨rfl, hb⟩; have G1 : Hid (Below W.heap.size W w7) := Lib.hid (F2.out.drew.trans (hb.mono F2.out.size)); clear hb)
          | (go_at_call 13; refine (hSet _ G2.out).mono ?_; rintro e w8 ⟨v8, rfl, hv, hb⟩; have G3 : Hid (IsBits w8 v8 601 (fun j => S j || decide (600 = j)) ∧ Below W.heap.size W w8) := ⟨hv, G2.out.trans (hb.mono G2.out.size)⟩; clear hv hb)
          | (go_at_call 26; refine (hCnt2 _ _ G3.out.1).mono ?_; rintro e w9 ⟨rfl, hb⟩; have G4 : Hid (Below W.heap.size W w9) := Lib.hid (G3.out.2.trans (hb.mono G3.out.2.size)); clear hb))
      go_wp2_with fail
      go_ret
      exact ⟨rfl, HE.out.trans (G4.out.mono HE.out.size)⟩
  · go_enter Try.func5, Try.ntmps5
    go_wp2_with fail
    refine (zzFits3_no _ _ _ _ _ (by omega)).mono ?_
    rintro e w1 ⟨rfl, hb⟩
    have HB : Hid (Below w.heap.size w w1) := ((Below.refl _ _).alloc (Nat.le_refl _) _).trans (hb.mono (by simp))
    clear hb
    go_wp2_with fail
    go_ret
    exact ⟨rfl, HB.out⟩

theorem own : ownKnob Try.prog.godebug = none := by kernel_rfl
theorem laidOut : laidOutB Try.prog = true := by kernel_rfl

set_option maxRecDepth 100000 in
theorem lifted (os : Os) (started : os.Started) (H : Type) (enc : TypeId × Value → H) :
    ReturnsInHanded {} Try.checked os 5 .any (Rows.fnBSDeepCountsSpec.pre6 enc Try.prog Try.f5 Rows.fnBSDeepCountsRow.domain false) (Rows.fnBSDeepCountsSpec.post enc Try.prog Try.f5 false true false false) := by
  refine LawKit.lifted (C := Try.checked) (T := 4) own started (by kernel_rfl) Try.func5 laidOut (by kernel_rfl) (by kernel_rfl) Try.underlying4 rfl ?_
    (ChangeSpec.witness6 (enc := enc) (C := Try.checked) false ⟨#[], #[.agg #[.int .u64 0, .slice none 0 0], .int .u16 0], []⟩ 8 (by kernel_rfl) (by kernel_rfl) (by kernel_rfl) (by kernel_rfl)) ?_
  · intro ds hd
    match ds, hd with
    | [_, _], _ => rfl
  · intro W base args ds p hval0 hA0 _
    have hval : ∀ (j : Nat) t v, Try.f5.params[j]? = some t → args[j]? = some v → Value.okWide Try.prog W .any base t v := hval0
    have hA : DataW.TrodAll enc Try.prog W 0 (fun _ => true) true Try.f5.params.toList args.toList ds p := hA0
    rw [Try.params5] at hA hval
    obtain ⟨v0, vs0, d0, ds0, p0, q0, hargs, rfl, rfl, h0, r0⟩ := trodAll_cons hA
    obtain ⟨v1, vs1, d1, ds1, p1, q1, rfl, rfl, rfl, h1, r1⟩ := trodAll_cons r0
    obtain ⟨rfl, rfl, rfl⟩ := trodAll_nil r1
    obtain rfl : args = #[v0, v1] := by cases args; simp_all
    obtain ⟨l0, so0, n0, cp0, xs0, rfl, hl0, hx0⟩ := open_bits (hval 0 25 v0 rfl rfl) h0
    obtain ⟨a1, rfl, rfl, rfl, w1⟩ := open_int Try.underlying26 (hval 1 26 v1 rfl rfl) h1
    have b1 := bounds_u16 w1
    obtain ⟨i1, rfl⟩ : ∃ i : Nat, a1 = (i : Int) := ⟨a1.toNat, by omega⟩
    exact walk hx0 i1 hl0 (by omega)

theorem proved : Rows.FnBSDeepCountsSaid :=
  OpenClaim.holds_of_wide 5 Try.f5 rfl rfl rfl rfl rfl rfl rfl ⟨rfl, rfl, rfl, rfl, rfl⟩ rfl rfl rfl rfl rfl (by kernel_rfl) Try.func5 (by kernel_rfl)
    (of_decide_eq_true (by kernel_rfl)) (by unfold Func.isWrapper; first | (rw [if_pos (by decide +kernel)]; kernel_rfl) | (rw [if_neg (by decide +kernel)]; exact ⟨rfl, rfl⟩))
    (fun os started H enc _ => lifted os started H enc)
#print axioms proved
end Go.Proofs.Ytpmnpaannbhoeaa.LCounts
