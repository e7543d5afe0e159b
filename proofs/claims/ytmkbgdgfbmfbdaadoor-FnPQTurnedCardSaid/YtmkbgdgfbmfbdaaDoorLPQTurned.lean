/- FnPQTurned answers true. -/
import Derived.Test.YtmkbgdgfbmfbdaaDoorP18
import Derived.Test.YtmkbgdgfbmfbdaaDoorArgKit
import Derived.Test.YtmkbgdgfbmfbdaaDoorDoorKit
import Derived.Test.YtmkbgdgfbmfbdaaDoorCards
import Derived.Test.YtmkbgdgfbmfbdaaDoorTie
import Derived.LaidMore
import Derived.LaidLaws
import Derived.Stop.LaidErr
import Derived.SevenTiedAt
namespace Go.Proofs.YtmkbgdgfbmfbdaaDoor.LPQTurned
open Go.RowKit Go.ChangeShapes Go.WideShapes Go.ChangeAt Go.Joins

theorem small_of {xs : List Int} (h : ∀ x ∈ xs, (Lit.int .i16 x).wf = true) : ∀ x ∈ xs, Small x := fun x hx => by
  exact bounds_i16 (h x hx)
theorem keys_items (b : Int) (xs : List Int) : keysOf (itemsOf b xs) = xs.map (· + b) := by
  apply List.ext_getElem?
  intro i
  simp [keysOf, itemsOf, List.getElem?_mapIdx, Function.comp_def]

set_option maxRecDepth 100000 in
set_option maxHeartbeats 4000000 in
theorem walk {W : World} {so : Option Addr} {n cp : Nat} {xs : List Int} {p : Nat} (hl : xs.length = n) (hv : 0 < n → Vals W (.slice so n cp) (xs.map (Value.int .i16))) (hb : ∀ x ∈ xs, (Lit.int .i16 x).wf = true) (hp : p ≤ 255) :
    Calls Tryd.prog 5 #[.slice so n cp, .int .u8 p] W fun e W' => e = .returned (.bool true) ∧ Below W.heap.size W W' := by
  have hs := small_of hb
  by_cases hn : n ≤ 30
  · have g1 : decide ((2147483647 : Int) < (n : Int)) = false := by simp; omega
    by_cases h0 : 0 < n
    · have hV := hv h0
      have HV : Hid (Vals W (.slice so n cp) (xs.map (Value.int .i16)) ∧ xs.length = n ∧ ∀ x ∈ xs, Small x) := ⟨hV, hl, hs⟩
      have hfew : (decide (0 < n) && decide (n ≤ 30)) = true := by simp; omega
      obtain ⟨r, hr⟩ : ∃ r, r = p % 5 := ⟨_, rfl⟩
      have hr2 : r < 5 := by omega
      have hr3 : (p : Int).tmod 5 = (r : Int) := by rw [hr]; rfl
      have hr4 : (p : Int) % 5 = (r : Int) := by rw [hr]; omega
      clear hv hb hs hV hr
      go_enter Tryd.func5, Tryd.ntmps5
      go_wp2_with fail
      refine (few_any _ _ _ _).mono ?_
      rintro e w' ⟨rfl, rfl⟩
      rw [hfew]
      go_wp2_with fail
      refine (items_any (b := 0) HV.out.1 (by rw [HV.out.2.1]; omega) HV.out.2.2 (by unfold Small; omega)).mono ?_
      rintro e w1 ⟨sv, rfl, hown, hb1⟩
      obtain ⟨s1, c1, rfl⟩ := own_shape hown
      have H1 : Hid (Pairs w1 (.slice s1 xs.length c1) (itemsOf 0 xs) ∧ Below W.heap.size W w1) := ⟨Pairs.of_own hown, hb1⟩
      rw [HV.out.2.1] at H1 ⊢
      clear hown hb1
      go_wp2_with fail
      refine (queue_any H1.out.1 (by omega) h0).mono ?_
      rintro e w2 ⟨s2, n2, c2, ka, rfl, hi2, ha2, hp2, hl2, hb2⟩
      have hbx : Below W.heap.size W w2 := H1.out.2.trans (hb2.mono H1.out.2.size)
      have hn2 : n2 = n := by
        have := hp2.length_eq
        rw [keys_items, List.length_map, HV.out.2.1] at this
        omega
      subst hn2
      rw [keys_items] at hp2
      have H2 : Hid (Ints w2 (.slice s2 n2 c2) ka ∧ Asc ka ∧ ka.Perm (xs.map (· + 0)) ∧ Below W.heap.size W w2 ∧ Vals w2 (.slice so n2 cp) (xs.map (Value.int .i16))) := ⟨hi2, ha2, hp2, hbx, HV.out.1.same hbx⟩
      clear hi2 ha2 hp2 hl2 hb2 hbx
      go_wp2_with fail
      refine (turned_any H2.out.2.2.2.2 (by omega) h0).mono ?_
      rintro e w3 ⟨s3, c3, ys, rfl, hv3, hp3, hb3⟩
      have H3 : Hid (Vals w3 (.slice s3 n2 c3) (ys.map (Value.int .i16)) ∧ ys.Perm xs ∧ Below w2.heap.size w2 w3) := ⟨hv3, hp3, hb3⟩
      clear hv3 hp3 hb3
      have hyl : ys.length = n2 := by rw [H3.out.2.1.length_eq, HV.out.2.1]
      have HY := Lib.hid hyl
      clear hyl
      go_wp2_with fail
      refine (items_any (b := 0) H3.out.1 (by rw [HY.out]; omega) (fun x hx => HV.out.2.2 x (H3.out.2.1.mem_iff.1 hx)) (by unfold Small; omega)).mono ?_
      rintro e w4 ⟨sv, rfl, hown, hb4⟩
      obtain ⟨s4, c4, rfl⟩ := own_shape hown
      have H4 : Hid (Pairs w4 (.slice s4 ys.length c4) (itemsOf 0 ys) ∧ Below w3.heap.size w3 w4) := ⟨Pairs.of_own hown, hb4⟩
      rw [HY.out] at H4 ⊢
      clear hown hb4
      have hil : (itemsOf 0 ys).length = n2 := by rw [itemsOf_len, HY.out]
      go_wp2_with fail
      refine (puts_any (most := 1 + r) H4.out.1 (by rw [hil]; omega) (by omega)).mono ?_
      rintro e w5 ⟨sv5, rfl, hs5, hb5⟩
      have hm1 : 1 ≤ 1 + r := by omega
      have hcf : (chunks (1 + r) (itemsOf 0 ys).length (itemsOf 0 ys)).flatten = itemsOf 0 ys := chunks_flat hm1 _ _ (Nat.le_refl _)
      have hcl : (chunks (1 + r) (itemsOf 0 ys).length (itemsOf 0 ys)).length ≤ (itemsOf 0 ys).length := chunks_len _ _
      have hcn := chunks_ne hm1 (itemsOf 0 ys).length (itemsOf 0 ys)
      have hine : itemsOf 0 ys ≠ [] := fun e => by rw [e] at hil; simp at hil; omega
      have hcs : chunks (1 + r) (itemsOf 0 ys).length (itemsOf 0 ys) ≠ [] := fun e => hine (by rw [← hcf, e]; rfl)
      generalize chunks (1 + r) (itemsOf 0 ys).length (itemsOf 0 ys) = cs at hs5 hcf hcl hcn hcs
      have HC : Hid (cs.flatten = itemsOf 0 ys ∧ cs.length ≤ n2 ∧ (∀ c ∈ cs, c ≠ []) ∧ cs ≠ [] ∧ itemsOf 0 ys ≠ [] ∧ (itemsOf 0 ys).length = n2) := ⟨hcf, by rw [← hil]; exact hcl, hcn, hcs, hine, hil⟩
      have H5 : Hid (Steps w5 sv5 (cs.map Step.put) ∧ Below w4.heap.size w4 w5) := ⟨hs5, hb5⟩
      clear hs5 hb5 hcf hcl hcn hine hcs hil hm1
      go_wp2_with fail
      refine (takes_any (N := 1000) H5.out.1 (by rw [List.length_map]; have := HC.out.2.1; omega) (by have := HC.out.2.2.2.1; simpa using this) (by omega)).mono ?_
      rintro e w6 ⟨sv6, rfl, hs6, hb6⟩
      obtain ⟨rs6, hr6, hr7⟩ := hs6
      obtain ⟨s6, c6, rfl⟩ := hr6.shape
      generalize rs6.length = n6 at hr6
      have H6 : Hid (Steps w6 (.slice s6 n6 c6) (scriptOf cs 1000) ∧ Below w5.heap.size w5 w6) := ⟨⟨rs6, hr6, hr7⟩, hb6⟩
      clear hr6 hr7 hb6
      go_wp2_with fail
      refine (got_script (h := 7) (by omega) H6.out.1 (by have := HC.out.2.1; omega) HC.out.2.2.1 (by rw [HC.out.1, HC.out.2.2.2.2.2]; omega) (by rw [HC.out.1]; exact HC.out.2.2.2.2.1) (by rw [HC.out.1, HC.out.2.2.2.2.2]; omega) (by omega)).mono ?_
      rintro e w7 ⟨s7, n7, c7, kb, rfl, hi7, ha7, hp7, hl7, hb7⟩
      rw [HC.out.1, keys_items] at hp7
      have hkk : kb = ka := by
        refine asc_unique ha7 H2.out.2.1 (hp7.trans (List.Perm.trans ?_ H2.out.2.2.1.symm))
        exact H3.out.2.1.map _
      subst hkk
      have hbz : Below w2.heap.size w2 w7 := by
        have b3 := H3.out.2.2
        have b4 := b3.trans (H4.out.2.mono b3.size)
        have b5 := b4.trans (H5.out.2.mono b4.size)
        have b6 := b5.trans (H6.out.2.mono b5.size)
        exact b6.trans (hb7.mono b6.size)
      have H7 : Hid (Ints w7 (.slice s2 n2 c2) kb ∧ Ints w7 (.slice s7 n7 c7) kb ∧ kb.length = n7 ∧ Below W.heap.size W w7) := ⟨H2.out.1.same hbz, hi7, hl7, H2.out.2.2.2.1.trans (hbz.mono H2.out.2.2.2.1.size)⟩
      clear hi7 ha7 hp7 hl7 hb7 hbz
      have hn7 : n7 ≤ 100 := by
        have h1 := H7.out.1.len
        have h2 := H7.out.2.2.1
        rw [List.length_map] at h1
        omega
      go_wp2_with fail
      refine (equal_any H7.out.1 H7.out.2.1 (by omega) (by omega)).mono ?_
      rintro e w8 ⟨he, hb8⟩
      rw [decide_eq_true rfl] at he
      subst he
      have H8 : Hid (Below W.heap.size W w8) := Lib.hid (H7.out.2.2.2.trans (hb8.mono H7.out.2.2.2.size))
      clear hb8
      have hnn : ((n2 : Int) == (n2 : Int)) = true := beq_self_eq_true _
      go_wp2_with fail
      go_ret
      exact ⟨rfl, H8.out⟩
    · have hn0 : n = 0 := by omega
      subst hn0
      have hfew : (decide (0 < 0) && decide (0 ≤ 30)) = false := by decide
      clear hv hb hs
      go_enter Tryd.func5, Tryd.ntmps5
      go_wp2_with fail
      refine (few_any _ _ _ _).mono ?_
      rintro e w' ⟨rfl, rfl⟩
      rw [show (decide (0 < 0) && decide (0 ≤ 30)) = false by decide]
      go_wp2_with fail
      go_ret
      exact ⟨rfl, Below.refl _ _⟩
  · have hfew : (decide (0 < n) && decide (n ≤ 30)) = false := by simp; omega
    clear hv hb hs
    by_cases hbig : (2147483647 : Int) < (n : Int)
    · have g1 : decide ((2147483647 : Int) < (n : Int)) = true := decide_eq_true hbig
      go_enter Tryd.func5, Tryd.ntmps5
      go_wp2_with fail
      go_ret
      exact ⟨rfl, Below.refl _ _⟩
    · have g1 : decide ((2147483647 : Int) < (n : Int)) = false := decide_eq_false hbig
      go_enter Tryd.func5, Tryd.ntmps5
      go_wp2_with fail
      refine (few_any _ _ _ _).mono ?_
      rintro e w' ⟨rfl, rfl⟩
      rw [hfew]
      go_wp2_with fail
      go_ret
      exact ⟨rfl, Below.refl _ _⟩

theorem own : ownKnob Tryd.prog.godebug = none := by kernel_rfl
theorem laidOut : laidOutB Tryd.prog = true := by kernel_rfl
theorem door_met (os : Os) (args : Array Value) : laidMetH Tryd.prog Rows.fnPQTurnedRow.laid ((World.doorLaid Tryd.prog 400 os).forCall (fun _ _ => 0) ⟨#[], args, []⟩).memory :=
  laidMetH_of_parts3 (fuel := 8) (laidMet_of_run' 8 (by kernel_rfl) (by kernel_rfl)) (by kernel_rfl) (by kernel_rfl)

set_option maxRecDepth 100000 in
theorem lifted (os : Os) (started : os.Started) (H : Type) (enc : TypeId × Value → H) :
    ReturnsInHanded {} Tryd.checked os 5 .any (fun w args => (Rows.fnPQTurnedSpec.pre enc Tryd.prog Tryd.f5 [] false w args ∧ laidMetH Tryd.prog Rows.fnPQTurnedRow.laid w) ∧ sizedMet enc Tryd.prog Tryd.f5 (OpenSpec.ofChange Rows.fnPQTurnedSpec) false w args) (Rows.fnPQTurnedSpec.post enc Tryd.prog Tryd.f5 false true false false) := by
  refine DoorKit.lifted (C := Tryd.checked) (T := 4) own started (by kernel_rfl) Tryd.func5 laidOut (by kernel_rfl) (by kernel_rfl) Tryd.underlying4 (by kernel_rfl) ?_
    (ChangeSpec.witness_shaped (enc := enc) (C := Tryd.checked) (os := os) (X := fun w _ => laidMetH Tryd.prog Rows.fnPQTurnedRow.laid w) false (World.doorLaid Tryd.prog 400 os) #[.slice none 0 0, .int .u8 0] 8 rfl (World.shaped_of_RefB (by kernel_rfl) (by kernel_rfl)) (by kernel_rfl) (by kernel_rfl) (by kernel_rfl) (door_met os _)) ?_
  · intro ds gs hd hg
    match ds, hd, gs, hg with
    | [_, _], _, [_, _, _], _ => rfl
  · intro W base args ds p hval0 hA0 _ hL
    have hval : ∀ (j : Nat) t v, Tryd.f5.params[j]? = some t → args[j]? = some v → Value.okWide Tryd.prog W .any base t v := hval0
    have hA : DataW.TrodAll enc Tryd.prog W 0 (fun _ => true) true Tryd.f5.params.toList args.toList ds p := hA0
    rw [Tryd.params5] at hA hval
    obtain ⟨v0, vs0, d0, ds0, p0, q0, hargs, rfl, rfl, h0, r0⟩ := trodAll_cons hA
    obtain ⟨v1, vs1, d1, ds1, p1, q1, rfl, rfl, rfl, h1, r1⟩ := trodAll_cons r0
    obtain ⟨rfl, rfl, rfl⟩ := trodAll_nil r1
    obtain rfl : args = #[v0, v1] := by cases args; simp_all
    obtain ⟨sk0, nk0, ck0, rfl⟩ := okWide_slice Tryd.underlying22 (hval 0 22 v0 rfl rfl)
    obtain ⟨fu0, hf0⟩ := h0
    obtain ⟨so0, n0, cp0, xs0, hw0, hl0, hv0, hb0⟩ := open_ilist Tryd.underlying22 Tryd.underlying37 (k := .i16) (by kernel_rfl) hf0
    rw [hw0]
    obtain ⟨a1, rfl, rfl, rfl, w1⟩ := open_int Tryd.underlying5 (hval 1 5 v1 rfl rfl) h1
    have b1 := bounds_u8 w1
    obtain ⟨i1, rfl⟩ : ∃ i : Nat, a1 = (i : Int) := ⟨a1.toNat, by omega⟩
    exact (walk hl0 hv0 hb0 (by omega))

theorem row_proved : Rows.FnPQTurnedSaid :=
  OpenClaim.holds_of_wide 5 Tryd.f5 rfl rfl rfl rfl rfl rfl rfl ⟨rfl, rfl, rfl, rfl, rfl⟩ rfl rfl rfl rfl rfl (by kernel_rfl) Tryd.func5 (by kernel_rfl)
    (of_decide_eq_true (by kernel_rfl)) (by unfold Func.isWrapper; first | (rw [if_pos (by decide +kernel)]; kernel_rfl) | (rw [if_neg (by decide +kernel)]; exact ⟨rfl, rfl⟩))
    (fun os started H enc _ => lifted os started H enc)

theorem proved : Rows.FnPQTurnedCardSaid :=
  Claim7.holds_tied_plain_at .later [] Rows.fnPQTurnedCard.laidKinds true Rows.fnPQTurnedCard.stood.harness Rows.fnPQTurnedCard.stood.looks
    row_proved (fun _ h => by cases h) (by kernel_rfl) (fun _ h => by cases h) fnPQTurned_row_tie rfl ⟨rfl, rfl⟩ (by kernel_rfl) rfl
    (fun f fn hf hfn => by
      obtain rfl : f = 5 := Option.some.inj ((show Tryd.prog.funcNamed "given.example/pub-spokeshave/laws.FnPQTurned" = some 5 by kernel_rfl).symm.trans hf) |>.symm
      obtain rfl : fn = Tryd.f5 := (Option.some.inj (Tryd.func5.symm.trans hfn)).symm
      exact ⟨by kernel_rfl, fun j t ht => by
        have hall : (Tryd.f5.params.toList.all fun u => !Tryd.prog.wantsStandIn u) = true := by kernel_rfl
        have hm : t ∈ Tryd.f5.params.toList := Array.mem_toList_iff.2 (Array.mem_of_getElem? ht)
        exact (show Tryd.prog.wantsStandIn t = false by simpa using List.all_eq_true.1 hall t hm)⟩)
    (by kernel_rfl)
#print axioms proved
end Go.Proofs.YtmkbgdgfbmfbdaaDoor.LPQTurned
