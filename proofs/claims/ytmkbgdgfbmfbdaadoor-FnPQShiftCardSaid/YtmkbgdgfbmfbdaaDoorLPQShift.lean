/- FnPQShift answers true. -/
import Derived.Test.YtmkbgdgfbmfbdaaDoorP19
import Derived.Test.YtmkbgdgfbmfbdaaDoorArgKit
import Derived.Test.YtmkbgdgfbmfbdaaDoorDoorKit
import Derived.Test.YtmkbgdgfbmfbdaaDoorCards
import Derived.Test.YtmkbgdgfbmfbdaaDoorTie
import Derived.LaidMore
import Derived.LaidLaws
import Derived.Stop.LaidErr
import Derived.SevenTiedAt
namespace Go.Proofs.YtmkbgdgfbmfbdaaDoor.LPQShift
open Go.RowKit Go.ChangeShapes Go.WideShapes Go.ChangeAt Go.Joins

theorem asc_plus (b : Int) {l : List Int} (h : Asc l) : Asc (l.map (· + b)) := List.pairwise_map.2 (h.imp (fun h => by omega))
theorem small_of {xs : List Int} (h : ∀ x ∈ xs, (Lit.int .i16 x).wf = true) : ∀ x ∈ xs, Small x := fun x hx => by
  exact bounds_i16 (h x hx)
theorem keys_items (b : Int) (xs : List Int) : keysOf (itemsOf b xs) = xs.map (· + b) := by
  apply List.ext_getElem?
  intro i
  simp [keysOf, itemsOf, List.getElem?_mapIdx, Function.comp_def]

set_option maxRecDepth 100000 in
set_option maxHeartbeats 4000000 in
theorem walk {W : World} {so : Option Addr} {n cp : Nat} {xs : List Int} {b : Int} (hl : xs.length = n) (hv : 0 < n → Vals W (.slice so n cp) (xs.map (Value.int .i16))) (hb : ∀ x ∈ xs, (Lit.int .i16 x).wf = true) (hbb : Small b) :
    Calls Tryd.prog 4 #[.slice so n cp, .int .i16 b] W fun e W' => e = .returned (.bool true) ∧ Below W.heap.size W W' := by
  have hs := small_of hb
  by_cases hn : n ≤ 30
  · have g1 : decide ((2147483647 : Int) < (n : Int)) = false := by simp; omega
    by_cases h0 : 0 < n
    · have hV := hv h0
      have HV : Hid (Vals W (.slice so n cp) (xs.map (Value.int .i16)) ∧ xs.length = n ∧ ∀ x ∈ xs, Small x) := ⟨hV, hl, hs⟩
      have hfew : (decide (0 < n) && decide (n ≤ 30)) = true := by simp; omega
      have HBB := Lib.hid hbb
      have hwb : IntKind.i64.wrap b = b := by rw [IntKind.wrap_i64]; obtain ⟨h1, h2⟩ := hbb; omega
      clear hv hb hs hV hbb
      go_enter Tryd.func4, Tryd.ntmps4
      go_wp2_with fail
      refine (few_any _ _ _ _).mono ?_
      rintro e w' ⟨rfl, rfl⟩
      rw [hfew]
      go_wp2_with fail
      refine (items_any (b := 0) HV.out.1 (by rw [HV.out.2.1]; omega) HV.out.2.2 (by unfold Small; omega)).mono ?_
      rintro e w1 ⟨sv, rfl, hown, hb1⟩
      obtain ⟨s1, c1, rfl⟩ := own_shape hown
      have H1 : Hid (Pairs w1 (.slice s1 xs.length c1) (itemsOf 0 xs) ∧ Below W.heap.size W w1) := ⟨Pairs.of_own hown, hb1⟩
      rw [HV.out.2.1] at H1 ⊢
      clear hown hb1
      go_wp2_with fail
      refine (queue_any H1.out.1 (by omega) h0).mono ?_
      rintro e w2 ⟨s2, n2, c2, ka, rfl, hi2, ha2, hp2, hl2, hb2⟩
      have hbx : Below W.heap.size W w2 := H1.out.2.trans (hb2.mono H1.out.2.size)
      have hn2 : n2 = n := by
        have := hp2.length_eq
        rw [keys_items, List.length_map, HV.out.2.1] at this
        omega
      subst hn2
      rw [keys_items] at hp2
      have H2 : Hid (Ints w2 (.slice s2 n2 c2) ka ∧ Asc ka ∧ ka.Perm (xs.map (· + 0)) ∧ Below W.heap.size W w2 ∧ Vals w2 (.slice so n2 cp) (xs.map (Value.int .i16))) := ⟨hi2, ha2, hp2, hbx, HV.out.1.same hbx⟩
      clear hi2 ha2 hp2 hl2 hb2 hbx
      go_wp2_with fail
      refine (items_any (b := b) H2.out.2.2.2.2 (by rw [HV.out.2.1]; omega) HV.out.2.2 HBB.out).mono ?_
      rintro e w3 ⟨sv, rfl, hown, hb3⟩
      obtain ⟨s3, c3, rfl⟩ := own_shape hown
      have H3 : Hid (Pairs w3 (.slice s3 xs.length c3) (itemsOf b xs) ∧ Below w2.heap.size w2 w3) := ⟨Pairs.of_own hown, hb3⟩
      rw [HV.out.2.1] at H3 ⊢
      clear hown hb3
      go_wp2_with fail
      refine (queue_any H3.out.1 (by omega) h0).mono ?_
      rintro e w4 ⟨s4, n4, c4, kb, rfl, hi4, ha4, hp4, hl4, hb4⟩
      have hbx : Below w2.heap.size w2 w4 := H3.out.2.trans (hb4.mono H3.out.2.size)
      have hn4 : n4 ≤ 100 := by
        have := hp4.length_eq
        rw [keys_items, List.length_map, HV.out.2.1] at this
        omega
      rw [keys_items] at hp4
      have hkk : ka.map (· + b) = kb := by
        refine asc_unique (asc_plus b H2.out.2.1) ha4 ((H2.out.2.2.1.map _).trans (List.Perm.trans (List.Perm.of_eq ?_) hp4.symm))
        rw [List.map_map]
        congr 1
        funext x
        simp
      have hka : ∀ x ∈ ka, Small x := fun x hx => by
        obtain ⟨y, hy, rfl⟩ := List.mem_map.1 (H2.out.2.2.1.mem_iff.1 hx)
        simpa using HV.out.2.2 y hy
      have H4 : Hid (Ints w4 (.slice s2 n2 c2) ka ∧ Ints w4 (.slice s4 n4 c4) kb ∧ ka.map (· + b) = kb ∧ (∀ x ∈ ka, Small x) ∧ Below W.heap.size W w4) := ⟨H2.out.1.same hbx, hi4, hkk, hka, H2.out.2.2.2.1.trans (hbx.mono H2.out.2.2.2.1.size)⟩
      clear hi4 ha4 hp4 hl4 hb4 hbx hkk hka
      go_wp2_with fail
      refine (plus_any (b := b) H4.out.1 (by omega) H4.out.2.2.2.1 HBB.out).mono ?_
      rintro e w5 ⟨s5, c5, rfl, hi5, hb5⟩
      rw [H4.out.2.2.1] at hi5
      have H5 : Hid (Ints w5 (.slice s5 n2 c5) kb ∧ Ints w5 (.slice s4 n4 c4) kb ∧ Below W.heap.size W w5) := ⟨hi5, H4.out.2.1.same hb5, H4.out.2.2.2.2.trans (hb5.mono H4.out.2.2.2.2.size)⟩
      clear hi5 hb5
      go_wp2_with fail
      refine (equal_any H5.out.1 H5.out.2.1 (by omega) (by omega)).mono ?_
      rintro e w6 ⟨he, hb6⟩
      rw [decide_eq_true rfl] at he
      subst he
      have H6 : Hid (Below W.heap.size W w6) := Lib.hid (H5.out.2.2.trans (hb6.mono H5.out.2.2.size))
      clear hb6
      have hnn : ((n2 : Int) == (n2 : Int)) = true := beq_self_eq_true _
      go_wp2_with fail
      go_ret
      exact ⟨rfl, H6.out⟩
    · have hn0 : n = 0 := by omega
      subst hn0
      clear hv hb hs hbb
      go_enter Tryd.func4, Tryd.ntmps4
      go_wp2_with fail
      refine (few_any _ _ _ _).mono ?_
      rintro e w' ⟨rfl, rfl⟩
      rw [show (decide (0 < 0) && decide (0 ≤ 30)) = false by decide]
      go_wp2_with fail
      go_ret
      exact ⟨rfl, Below.refl _ _⟩
  · have hfew : (decide (0 < n) && decide (n ≤ 30)) = false := by simp; omega
    clear hv hb hs hbb
    by_cases hbig : (2147483647 : Int) < (n : Int)
    · have g1 : decide ((2147483647 : Int) < (n : Int)) = true := decide_eq_true hbig
      go_enter Tryd.func4, Tryd.ntmps4
      go_wp2_with fail
      go_ret
      exact ⟨rfl, Below.refl _ _⟩
    · have g1 : decide ((2147483647 : Int) < (n : Int)) = false := decide_eq_false hbig
      go_enter Tryd.func4, Tryd.ntmps4
      go_wp2_with fail
      refine (few_any _ _ _ _).mono ?_
      rintro e w' ⟨rfl, rfl⟩
      rw [hfew]
      go_wp2_with fail
      go_ret
      exact ⟨rfl, Below.refl _ _⟩

theorem own : ownKnob Tryd.prog.godebug = none := by kernel_rfl
theorem laidOut : laidOutB Tryd.prog = true := by kernel_rfl
theorem door_met (os : Os) (args : Array Value) : laidMetH Tryd.prog Rows.fnPQShiftRow.laid ((World.doorLaid Tryd.prog 400 os).forCall (fun _ _ => 0) ⟨#[], args, []⟩).memory :=
  laidMetH_of_parts3 (fuel := 8) (laidMet_of_run' 8 (by kernel_rfl) (by kernel_rfl)) (by kernel_rfl) (by kernel_rfl)

set_option maxRecDepth 100000 in
theorem lifted (os : Os) (started : os.Started) (H : Type) (enc : TypeId × Value → H) :
    ReturnsInHanded {} Tryd.checked os 4 .any (fun w args => (Rows.fnPQShiftSpec.pre enc Tryd.prog Tryd.f4 [] false w args ∧ laidMetH Tryd.prog Rows.fnPQShiftRow.laid w) ∧ sizedMet enc Tryd.prog Tryd.f4 (OpenSpec.ofChange Rows.fnPQShiftSpec) false w args) (Rows.fnPQShiftSpec.post enc Tryd.prog Tryd.f4 false true false false) := by
  refine DoorKit.lifted (C := Tryd.checked) (T := 4) own started (by kernel_rfl) Tryd.func4 laidOut (by kernel_rfl) (by kernel_rfl) Tryd.underlying4 (by kernel_rfl) ?_
    (ChangeSpec.witness_shaped (enc := enc) (C := Tryd.checked) (os := os) (X := fun w _ => laidMetH Tryd.prog Rows.fnPQShiftRow.laid w) false (World.doorLaid Tryd.prog 400 os) #[.slice none 0 0, .int .i16 0] 8 rfl (World.shaped_of_RefB (by kernel_rfl) (by kernel_rfl)) (by kernel_rfl) (by kernel_rfl) (by kernel_rfl) (door_met os _)) ?_
  · intro ds gs hd hg
    match ds, hd, gs, hg with
    | [_, _], _, [_, _, _], _ => rfl
  · intro W base args ds p hval0 hA0 _ hL
    have hval : ∀ (j : Nat) t v, Tryd.f4.params[j]? = some t → args[j]? = some v → Value.okWide Tryd.prog W .any base t v := hval0
    have hA : DataW.TrodAll enc Tryd.prog W 0 (fun _ => true) true Tryd.f4.params.toList args.toList ds p := hA0
    rw [Tryd.params4] at hA hval
    obtain ⟨v0, vs0, d0, ds0, p0, q0, hargs, rfl, rfl, h0, r0⟩ := trodAll_cons hA
    obtain ⟨v1, vs1, d1, ds1, p1, q1, rfl, rfl, rfl, h1, r1⟩ := trodAll_cons r0
    obtain ⟨rfl, rfl, rfl⟩ := trodAll_nil r1
    obtain rfl : args = #[v0, v1] := by cases args; simp_all
    obtain ⟨sk0, nk0, ck0, rfl⟩ := okWide_slice Tryd.underlying22 (hval 0 22 v0 rfl rfl)
    obtain ⟨fu0, hf0⟩ := h0
    obtain ⟨so0, n0, cp0, xs0, hw0, hl0, hv0, hb0⟩ := open_ilist Tryd.underlying22 Tryd.underlying37 (k := .i16) (by kernel_rfl) hf0
    rw [hw0]
    obtain ⟨a1, rfl, rfl, rfl, w1⟩ := open_int Tryd.underlying37 (hval 1 37 v1 rfl rfl) h1
    have b1 := bounds_i16 w1
    exact (walk hl0 hv0 hb0 b1)

theorem row_proved : Rows.FnPQShiftSaid :=
  OpenClaim.holds_of_wide 4 Tryd.f4 rfl rfl rfl rfl rfl rfl rfl ⟨rfl, rfl, rfl, rfl, rfl⟩ rfl rfl rfl rfl rfl (by kernel_rfl) Tryd.func4 (by kernel_rfl)
    (of_decide_eq_true (by kernel_rfl)) (by unfold Func.isWrapper; first | (rw [if_pos (by decide +kernel)]; kernel_rfl) | (rw [if_neg (by decide +kernel)]; exact ⟨rfl, rfl⟩))
    (fun os started H enc _ => lifted os started H enc)

theorem proved : Rows.FnPQShiftCardSaid :=
  Claim7.holds_tied_plain_at .later [] Rows.fnPQShiftCard.laidKinds true Rows.fnPQShiftCard.stood.harness Rows.fnPQShiftCard.stood.looks
    row_proved (fun _ h => by cases h) (by kernel_rfl) (fun _ h => by cases h) fnPQShift_row_tie rfl ⟨rfl, rfl⟩ (by kernel_rfl) rfl
    (fun f fn hf hfn => by
      obtain rfl : f = 4 := Option.some.inj ((show Tryd.prog.funcNamed "given.example/pub-spokeshave/laws.FnPQShift" = some 4 by kernel_rfl).symm.trans hf) |>.symm
      obtain rfl : fn = Tryd.f4 := (Option.some.inj (Tryd.func4.symm.trans hfn)).symm
      exact ⟨by kernel_rfl, fun j t ht => by
        have hall : (Tryd.f4.params.toList.all fun u => !Tryd.prog.wantsStandIn u) = true := by kernel_rfl
        have hm : t ∈ Tryd.f4.params.toList := Array.mem_toList_iff.2 (Array.mem_of_getElem? ht)
        exact (show Tryd.prog.wantsStandIn t = false by simpa using List.all_eq_true.1 hall t hm)⟩)
    (by kernel_rfl)
#print axioms proved
end Go.Proofs.YtmkbgdgfbmfbdaaDoor.LPQShift
