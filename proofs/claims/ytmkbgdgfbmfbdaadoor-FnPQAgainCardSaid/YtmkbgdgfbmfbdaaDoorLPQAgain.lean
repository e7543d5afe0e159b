/- FnPQAgain answers true. -/
import Derived.Test.YtmkbgdgfbmfbdaaDoorP20
import Derived.Test.YtmkbgdgfbmfbdaaDoorArgKit
import Derived.Test.YtmkbgdgfbmfbdaaDoorDoorKit
import Derived.Test.YtmkbgdgfbmfbdaaDoorCards
import Derived.Test.YtmkbgdgfbmfbdaaDoorTie
import Derived.LaidMore
import Derived.LaidLaws
import Derived.Stop.LaidErr
import Derived.SevenTiedAt
namespace Go.Proofs.YtmkbgdgfbmfbdaaDoor.LPQAgain
open Go.RowKit Go.ChangeShapes Go.WideShapes Go.ChangeAt Go.Joins

theorem small_of {xs : List Int} (h : ∀ x ∈ xs, (Lit.int .i16 x).wf = true) : ∀ x ∈ xs, Small x := fun x hx => by
  exact bounds_i16 (h x hx)
theorem keys_items (b : Int) (xs : List Int) : keysOf (itemsOf b xs) = xs.map (· + b) := by
  apply List.ext_getElem?
  intro i
  simp [keysOf, itemsOf, List.getElem?_mapIdx, Function.comp_def]

theorem chunk_one {its : List Item} (h0 : its ≠ []) (hl : its.length ≤ 30) : chunks 30 its.length its = [its] := by
  rw [chunks_cons (by omega) h0, List.take_of_length_le hl, List.drop_of_length_le hl]
  rfl
theorem vals_take {w : World} {b o n m c : Nat} {us vs : List Value} (h : Vals w (.slice (some ⟨b, o, none⟩) n c) (us ++ vs)) (hm : us.length = m) : Vals w (.slice (some ⟨b, o, none⟩) m c) us := by
  have hl := h.len
  rw [List.length_append] at hl
  rcases h with ⟨h1, _⟩ | ⟨b', o', c', h1, h2, h3⟩
  · simp at h1
  · simp only [Value.slice.injEq, Option.some.injEq, Addr.mk.injEq] at h1
    obtain ⟨⟨rfl, rfl, _⟩, _, rfl⟩ := h1
    rw [List.length_append] at h2
    refine Or.inr ⟨b, o, c, by rw [hm], by omega, fun i hi => ?_⟩
    rw [h3 i (by rw [List.length_append]; omega), List.getElem?_append_left hi]
theorem vals_drop {w : World} {b o n m c : Nat} {us vs : List Value} (h : Vals w (.slice (some ⟨b, o, none⟩) n c) (us ++ vs)) (hm : us.length = m) : Vals w (.slice (some ⟨b, o + m, none⟩) (n - m) (c - m)) vs := by
  have hl := h.len
  rw [List.length_append] at hl
  rcases h with ⟨h1, _⟩ | ⟨b', o', c', h1, h2, h3⟩
  · simp at h1
  · simp only [Value.slice.injEq, Option.some.injEq, Addr.mk.injEq] at h1
    obtain ⟨⟨rfl, rfl, _⟩, _, rfl⟩ := h1
    rw [List.length_append] at h2
    refine Or.inr ⟨b, o + m, c - m, by rw [show vs.length = n - m by omega], by omega, fun i hi => ?_⟩
    have h4 := h3 (m + i) (by rw [List.length_append]; omega)
    rw [List.getElem?_append_right (by omega), show m + i - us.length = i by omega] at h4
    rw [show o + m + i = o + (m + i) by omega]
    exact h4
set_option maxRecDepth 100000 in
set_option maxHeartbeats 4000000 in
theorem walk {W : World} {so : Option Addr} {n cp : Nat} {xs : List Int} (hl : xs.length = n) (hv : 0 < n → Vals W (.slice so n cp) (xs.map (Value.int .i16))) (hb : ∀ x ∈ xs, (Lit.int .i16 x).wf = true) :
    Calls Tryd.prog 3 #[.slice so n cp] W fun e W' => e = .returned (.bool true) ∧ Below W.heap.size W W' := by
  have hs := small_of hb
  by_cases hn : n ≤ 30
  · have g1 : decide ((2147483647 : Int) < (n : Int)) = false := by simp; omega
    by_cases h0 : 0 < n
    · have hV := hv h0
      have HV : Hid (Vals W (.slice so n cp) (xs.map (Value.int .i16)) ∧ xs.length = n ∧ ∀ x ∈ xs, Small x) := ⟨hV, hl, hs⟩
      have hfew : (decide (0 < n) && decide (n ≤ 30)) = true := by simp; omega
      obtain ⟨i0, hi, hz0, hz1, hz2⟩ := info_at infoT
      have HI : Hid (Tryd.prog.info? 35 = some i0 ∧ i0.zero = some (.agg #[.int .i64 0, .int .i64 0, .slice none 0 0]) ∧ i0.size = 3 ∧ i0.bytes = 40) := ⟨hi, hz0, hz1, hz2⟩
      clear hv hb hs hV hi hz0 hz1 hz2
      go_enter Tryd.func3, Tryd.ntmps3
      go_wp2_with fail
      refine (few_any _ _ _ _).mono ?_
      rintro e w' ⟨rfl, rfl⟩
      rw [hfew]
      go_wp2_with fail
      refine (items_any (b := 0) HV.out.1 (by rw [HV.out.2.1]; omega) HV.out.2.2 (by unfold Small; omega)).mono ?_
      rintro e w1 ⟨sv, rfl, hown, hb1⟩
      obtain ⟨s1, c1, rfl⟩ := own_shape hown
      obtain ⟨its, hits⟩ : ∃ its, its = itemsOf 0 xs := ⟨_, rfl⟩
      rw [← hits] at hown
      have hil : its.length = n := by rw [hits, itemsOf_len, HV.out.2.1]
      have H1 : Hid (Pairs w1 (.slice s1 xs.length c1) its ∧ Below W.heap.size W w1 ∧ its.length = n ∧ its.Nodup ∧ its ≠ []) := ⟨Pairs.of_own hown, hb1, hil, by rw [hits]; exact itemsOf_nodup 0 xs, fun e => by rw [e] at hil; simp at hil; omega⟩
      rw [HV.out.2.1] at H1 ⊢
      clear hown hb1 hits hil
      go_wp2_with fail
      refine (queue_any H1.out.1 (by omega) h0).mono ?_
      rintro e w2 ⟨s2, n2, c2, ka, rfl, hi2, ha2, hp2, hl2, hb2⟩
      have hbx : Below W.heap.size W w2 := H1.out.2.1.trans (hb2.mono H1.out.2.1.size)
      have hn2 : n2 = n := by
        have := hp2.length_eq
        rw [keysOf, List.length_map, H1.out.2.2.1] at this
        omega
      subst hn2
      have H2 : Hid (Ints w2 (.slice s2 n2 c2) ka ∧ Asc ka ∧ ka.Perm (keysOf its) ∧ Below W.heap.size W w2 ∧ Pairs w2 (.slice s1 n2 c1) its ∧ ka.length = n2) := ⟨hi2, ha2, hp2, hbx, Recs.same H1.out.1 hb2, hl2⟩
      clear hi2 ha2 hp2 hl2 hb2 hbx
      go_wp2_with fail
      refine (puts_any (most := 30) H2.out.2.2.2.2.1 (by rw [H1.out.2.2.1]; omega) (by omega)).mono ?_
      rintro e w5 ⟨sv5, rfl, hs5, hb5⟩
      rw [chunk_one H1.out.2.2.2.2 (by rw [H1.out.2.2.1]; omega)] at hs5
      have H5 : Hid (Steps w5 sv5 [Step.put its] ∧ Below w2.heap.size w2 w5) := ⟨hs5, hb5⟩
      clear hs5 hb5
      go_wp2_with fail
      refine (takes_any (N := 1000) H5.out.1 (by simp) (by simp) (by omega)).mono ?_
      rintro e w6 ⟨sv6, rfl, hs6, hb6⟩
      obtain ⟨rs, hr6, hrl, hrm⟩ := hs6
      obtain ⟨s6, c6, rfl⟩ := hr6.shape
      have hrl : rs.length = 2 := hrl
      rw [hrl] at hr6 ⊢
      have hsh : ∀ r ∈ rs, r.length = 3 ∧ ∀ u ∈ r, u.oneCell' = true := fun r hr => by
        obtain ⟨i, hi⟩ := List.getElem?_of_mem hr
        obtain ⟨s, hs⟩ : ∃ s, ([Step.put its] ++ [Step.get 1000])[i]? = some s := ⟨_, List.getElem?_eq_getElem (by have := (List.getElem?_eq_some_iff.1 hi).1; rw [hrl] at this; exact this)⟩
        obtain ⟨x1, x2, x3, x4, x5, rfl⟩ := (hrm i r s hi hs).shape
        exact ⟨rfl, fun u hu => by simp at hu; rcases hu with rfl | rfl | rfl <;> rfl⟩
      obtain ⟨bb, oo, rfl, hcell⟩ := hr6.cells (by decide) (fun r hr => (hsh r hr).1) (by decide)
      have hfl : rs.flatten.length = 2 * 3 := by rw [flatten_len (fun r hr => (hsh r hr).1), hrl]
      have hone : ∀ u ∈ rs.flatten, u.oneCell' = true := fun u hu => by obtain ⟨r, hr, hu⟩ := List.mem_flatten.1 hu; exact (hsh r hr).2 u hu
      have H6 : Hid (rs.length = 2 ∧ (∀ r ∈ rs, r.length = 3) ∧ (∀ u ∈ rs.flatten, u.oneCell' = true) ∧ (∀ (i : Nat) (r : List Value) (s : Step), rs[i]? = some r → ([Step.put its] ++ [Step.get 1000])[i]? = some s → SMem w6 r s) ∧ (∀ j u, rs.flatten[j]? = some u → w6.cell? ⟨bb, oo + j, none⟩ = some u) ∧ rs.flatten.length = 2 * 3 ∧ Below w2.heap.size w2 w6) := ⟨hrl, fun r hr => (hsh r hr).1, hone, hrm, hcell, hfl, H5.out.2.trans (hb6.mono H5.out.2.size)⟩
      clear hr6 hrl hrm hsh hcell hfl hone hb6
      go_wp2_with fail
      refine (clone_steps (vs := rs.flatten) H6.out.2.2.2.2.2.1 (by omega) H6.out.2.2.2.2.1 H6.out.2.2.1).mono ?_
      rintro e w7 ⟨v7, rfl, hown, hb7⟩
      obtain ⟨t7, d7, rfl⟩ := own_shape hown
      have H7 : Hid (w7.ownsRow w6.heap.size 35 3 (.slice t7 2 d7) 2 rs.flatten ∧ Below w6.heap.size w6 w7 ∧ ∀ j u, rs.flatten[j]? = some u → w7.cell? ((⟨bb, oo, none⟩ : Addr).add j) = some u) := ⟨hown, hb7, fun j u hj => by
        have h2 := H6.out.2.2.2.2.1 j u hj
        rw [addr_add]
        exact (hb7.cell (cell_lt' h2)).trans h2⟩
      clear hown hb7
      go_wp2_with (at_builtin; go_must (refine wpList_append_own_at _ rfl (.tmp 27) (.tmp 28) 29 rfl w6.heap.size 35 i0 (.agg #[.int .i64 0, .int .i64 0, .slice none 0 0]) 3 40 Tryd.underlying29 HI.out.1 HI.out.2.1 HI.out.2.2.1 HI.out.2.2.2 rfl (by decide) (.slice t7 2 d7) 2 _ rfl H7.out.1 ⟨bb, oo, none⟩ 2 c6 rs.flatten rfl H6.out.2.2.2.2.2.1 H7.out.2.2 H6.out.2.2.1 ?c3 ?c4 ?c5 ?_))
      case c3 => decide
      case c4 => decide
      case c5 => exact H7.out.2.1.size
      intro v8 w8 hown hgrow _ _
      obtain ⟨t8, d8, rfl⟩ := own_shape hown
      have H8 : Hid (Steps w8 (.slice t8 4 d8) [Step.put its, Step.get 1000, Step.put its, Step.get 1000] ∧ Below w2.heap.size w2 w8) := by
        have hb8 : Below w6.heap.size w7 w8 := (Below.refl _ _).grown hgrow H7.out.2.1.size (fun k hk => (own_block H7.out.1 hk).1)
        have hb68 : Below w6.heap.size w6 w8 := H7.out.2.1.trans hb8
        refine ⟨⟨rs ++ rs, Recs.of_own (by decide) (fun r hr => ?_) (by rw [List.flatten_append]; exact hown), by rw [List.length_append, H6.out.1]; rfl, fun i r s h1 h2 => ?_⟩, H6.out.2.2.2.2.2.2.trans (hb68.mono H6.out.2.2.2.2.2.2.size)⟩
        · rcases List.mem_append.1 hr with h | h <;> exact H6.out.2.1 r h
        · by_cases hi : i < 2
          · rw [List.getElem?_append_left (by rw [H6.out.1]; exact hi)] at h1
            exact (H6.out.2.2.2.1 i r s h1 (by rw [← h2]; match i, hi with | 0, _ => rfl | 1, _ => rfl)).same hb68
          · rw [List.getElem?_append_right (by rw [H6.out.1]; omega), H6.out.1] at h1
            have hlt := (List.getElem?_eq_some_iff.1 h2).1
            simp at hlt
            refine (H6.out.2.2.2.1 (i - 2) r s h1 ?_).same hb68
            rw [← h2]
            match i, hi, hlt with
            | 2, _, _ => rfl
            | 3, _, _ => rfl
      clear hown hgrow
      go_wp2_with fail
      refine (got_any (h := 0) (by omega) H8.out.1 (by simp) (again_good H1.out.2.2.2.2 H1.out.2.2.2.1 (by rw [H1.out.2.2.1]; omega) (by omega) (by omega) (by omega) (by omega)) (fun x k o hr => ?hlen)).mono ?_
      case hlen =>
        obtain ⟨o1, o2, rfl, h1, _, h2, _⟩ := again4 hr
        have e1 := h1.length_eq
        have e2 := h2.length_eq
        have e3 := H1.out.2.2.1
        simp
        omega
      rintro e w9 ⟨sv9, x9, k9, outs, rfl, hr9, hi9, hb9⟩
      obtain ⟨o1, o2, rfl, h1, h2, h3, h4⟩ := again4 hr9
      have f1 : keysOf o1 = ka := asc_unique h2 H2.out.2.1 ((h1.map _).trans H2.out.2.2.1.symm)
      have f2 : keysOf o2 = ka := asc_unique h4 H2.out.2.1 ((h3.map _).trans H2.out.2.2.1.symm)
      have f3 : keysOf ([[], o1, [], o2] : List (List Item)).flatten = ka ++ ka := by
        simp only [List.flatten_cons, List.flatten_nil, List.nil_append, List.append_nil, keysOf_append, f1, f2]
      rw [f3] at hi9
      obtain ⟨s9, c9, rfl⟩ := hi9.shape
      have hl9 : ((ka ++ ka).map (Value.int .i64)).length = 2 * n2 := by rw [List.length_map, List.length_append, H2.out.2.2.2.2.2]; omega
      rw [hl9] at hi9 ⊢
      rw [Ints, List.map_append] at hi9
      obtain ⟨b9, o9, rfl, _⟩ := hi9.cells (by omega)
      have hc9 : 2 * n2 ≤ c9 := by
        rcases hi9 with ⟨h, _⟩ | ⟨b', o', c', h1, h2, _⟩
        · simp at h
        · simp only [Value.slice.injEq] at h1
          obtain ⟨_, e, rfl⟩ := h1
          omega
      have hkl : (ka.map (Value.int .i64)).length = n2 := by rw [List.length_map, H2.out.2.2.2.2.2]
      have hd := vals_drop hi9 hkl
      rw [show 2 * n2 - n2 = n2 by omega] at hd
      have hbx : Below W.heap.size W w9 := H2.out.2.2.2.1.trans ((H8.out.2.trans (hb9.mono H8.out.2.size)).mono H2.out.2.2.2.1.size)
      have H9 : Hid (Ints w9 (.slice (some ⟨b9, o9, none⟩) n2 c9) ka ∧ Ints w9 (.slice (some ⟨b9, o9 + n2, none⟩) n2 (c9 - n2)) ka ∧ Ints w9 (.slice s2 n2 c2) ka ∧ Below W.heap.size W w9) := ⟨vals_take hi9 hkl, hd, H2.out.1.same (H8.out.2.trans (hb9.mono H8.out.2.size)), hbx⟩
      clear hr9 hi9 hb9 h1 h2 h3 h4 f1 f2 f3 hl9 hkl hd hbx
      have y1 : ¬ c9 = n2 := by omega
      have y2 : (n2 : Int) ≤ (c9 : Int) := by omega
      have y3 : n2 ≤ c9 := by omega
      have y4 : ((2 * n2 : Nat) : Int) = 2 * (n2 : Int) := by omega
      have y5 : (2 * (n2 : Int) == 2 * (n2 : Int)) = true := beq_self_eq_true _
      have y6 : n2 ≤ 2 * n2 := by omega
      have y7 : 2 * n2 - n2 = n2 := by omega
      have y8 : (n2 : Int) ≤ 2 * (n2 : Int) := by omega
      go_wp2_with fail
      refine (equal_any H9.out.1 H9.out.2.2.1 (by omega) (by omega)).mono ?_
      rintro e w10 ⟨he, hb10⟩
      rw [decide_eq_true rfl] at he
      subst he
      have H10 : Hid (Ints w10 (.slice (some ⟨b9, o9 + n2, none⟩) n2 (c9 - n2)) ka ∧ Ints w10 (.slice s2 n2 c2) ka ∧ Below W.heap.size W w10) := ⟨H9.out.2.1.same hb10, H9.out.2.2.1.same hb10, H9.out.2.2.2.trans (hb10.mono H9.out.2.2.2.size)⟩
      clear hb10
      go_wp2_with fail
      refine (equal_any H10.out.1 H10.out.2.1 (by omega) (by omega)).mono ?_
      rintro e w11 ⟨he, hb11⟩
      rw [decide_eq_true rfl] at he
      subst he
      have H11 : Hid (Below W.heap.size W w11) := Lib.hid (H10.out.2.2.trans (hb11.mono H10.out.2.2.size))
      clear hb11
      go_wp2_with fail
      go_ret
      exact ⟨rfl, H11.out⟩
    · have hn0 : n = 0 := by omega
      subst hn0
      clear hv hb hs
      go_enter Tryd.func3, Tryd.ntmps3
      go_wp2_with fail
      refine (few_any _ _ _ _).mono ?_
      rintro e w' ⟨rfl, rfl⟩
      rw [show (decide (0 < 0) && decide (0 ≤ 30)) = false by decide]
      go_wp2_with fail
      go_ret
      exact ⟨rfl, Below.refl _ _⟩
  · have hfew : (decide (0 < n) && decide (n ≤ 30)) = false := by simp; omega
    clear hv hb hs
    by_cases hbig : (2147483647 : Int) < (n : Int)
    · have g1 : decide ((2147483647 : Int) < (n : Int)) = true := decide_eq_true hbig
      go_enter Tryd.func3, Tryd.ntmps3
      go_wp2_with fail
      go_ret
      exact ⟨rfl, Below.refl _ _⟩
    · have g1 : decide ((2147483647 : Int) < (n : Int)) = false := decide_eq_false hbig
      go_enter Tryd.func3, Tryd.ntmps3
      go_wp2_with fail
      refine (few_any _ _ _ _).mono ?_
      rintro e w' ⟨rfl, rfl⟩
      rw [hfew]
      go_wp2_with fail
      go_ret
      exact ⟨rfl, Below.refl _ _⟩

theorem own : ownKnob Tryd.prog.godebug = none := by kernel_rfl
theorem laidOut : laidOutB Tryd.prog = true := by kernel_rfl
theorem door_met (os : Os) (args : Array Value) : laidMetH Tryd.prog Rows.fnPQAgainRow.laid ((World.doorLaid Tryd.prog 400 os).forCall (fun _ _ => 0) ⟨#[], args, []⟩).memory :=
  laidMetH_of_parts3 (fuel := 8) (laidMet_of_run' 8 (by kernel_rfl) (by kernel_rfl)) (by kernel_rfl) (by kernel_rfl)

set_option maxRecDepth 100000 in
theorem lifted (os : Os) (started : os.Started) (H : Type) (enc : TypeId × Value → H) :
    ReturnsInHanded {} Tryd.checked os 3 .any (fun w args => (Rows.fnPQAgainSpec.pre enc Tryd.prog Tryd.f3 [] false w args ∧ laidMetH Tryd.prog Rows.fnPQAgainRow.laid w) ∧ sizedMet enc Tryd.prog Tryd.f3 (OpenSpec.ofChange Rows.fnPQAgainSpec) false w args) (Rows.fnPQAgainSpec.post enc Tryd.prog Tryd.f3 false true false false) := by
  refine DoorKit.lifted (C := Tryd.checked) (T := 4) own started (by kernel_rfl) Tryd.func3 laidOut (by kernel_rfl) (by kernel_rfl) Tryd.underlying4 (by kernel_rfl) ?_
    (ChangeSpec.witness_shaped (enc := enc) (C := Tryd.checked) (os := os) (X := fun w _ => laidMetH Tryd.prog Rows.fnPQAgainRow.laid w) false (World.doorLaid Tryd.prog 400 os) #[.slice none 0 0] 8 rfl (World.shaped_of_RefB (by kernel_rfl) (by kernel_rfl)) (by kernel_rfl) (by kernel_rfl) (by kernel_rfl) (door_met os _)) ?_
  · intro ds gs hd hg
    match ds, hd, gs, hg with
    | [_], _, [_, _, _], _ => rfl
  · intro W base args ds p hval0 hA0 _ hL
    have hval : ∀ (j : Nat) t v, Tryd.f3.params[j]? = some t → args[j]? = some v → Value.okWide Tryd.prog W .any base t v := hval0
    have hA : DataW.TrodAll enc Tryd.prog W 0 (fun _ => true) true Tryd.f3.params.toList args.toList ds p := hA0
    rw [Tryd.params3] at hA hval
    obtain ⟨v0, vs0, d0, ds0, p0, q0, hargs, rfl, rfl, h0, r0⟩ := trodAll_cons hA
    obtain ⟨rfl, rfl, rfl⟩ := trodAll_nil r0
    obtain rfl : args = #[v0] := by cases args; simp_all
    obtain ⟨sk0, nk0, ck0, rfl⟩ := okWide_slice Tryd.underlying22 (hval 0 22 v0 rfl rfl)
    obtain ⟨fu0, hf0⟩ := h0
    obtain ⟨so0, n0, cp0, xs0, hw0, hl0, hv0, hb0⟩ := open_ilist Tryd.underlying22 Tryd.underlying37 (k := .i16) (by kernel_rfl) hf0
    rw [hw0]
    exact (walk hl0 hv0 hb0)

theorem row_proved : Rows.FnPQAgainSaid :=
  OpenClaim.holds_of_wide 3 Tryd.f3 rfl rfl rfl rfl rfl rfl rfl ⟨rfl, rfl, rfl, rfl, rfl⟩ rfl rfl rfl rfl rfl (by kernel_rfl) Tryd.func3 (by kernel_rfl)
    (of_decide_eq_true (by kernel_rfl)) (by unfold Func.isWrapper; first | (rw [if_pos (by decide +kernel)]; kernel_rfl) | (rw [if_neg (by decide +kernel)]; exact ⟨rfl, rfl⟩))
    (fun os started H enc _ => lifted os started H enc)

theorem proved : Rows.FnPQAgainCardSaid :=
  Claim7.holds_tied_plain_at .later [] Rows.fnPQAgainCard.laidKinds true Rows.fnPQAgainCard.stood.harness Rows.fnPQAgainCard.stood.looks
    row_proved (fun _ h => by cases h) (by kernel_rfl) (fun _ h => by cases h) fnPQAgain_row_tie rfl ⟨rfl, rfl⟩ (by kernel_rfl) rfl
    (fun f fn hf hfn => by
      obtain rfl : f = 3 := Option.some.inj ((show Tryd.prog.funcNamed "given.example/pub-spokeshave/laws.FnPQAgain" = some 3 by kernel_rfl).symm.trans hf) |>.symm
      obtain rfl : fn = Tryd.f3 := (Option.some.inj (Tryd.func3.symm.trans hfn)).symm
      exact ⟨by kernel_rfl, fun j t ht => by
        have hall : (Tryd.f3.params.toList.all fun u => !Tryd.prog.wantsStandIn u) = true := by kernel_rfl
        have hm : t ∈ Tryd.f3.params.toList := Array.mem_toList_iff.2 (Array.mem_of_getElem? ht)
        exact (show Tryd.prog.wantsStandIn t = false by simpa using List.all_eq_true.1 hall t hm)⟩)
    (by kernel_rfl)
#print axioms proved
end Go.Proofs.YtmkbgdgfbmfbdaaDoor.LPQAgain
