/- FnXQueues answers true. -/
import Derived.Test.YtmkbgdgfbmfbdaaDoorP18
import Derived.Test.YtmkbgdgfbmfbdaaDoorM8
import Derived.Test.YtmkbgdgfbmfbdaaDoorArgKit
import Derived.Test.YtmkbgdgfbmfbdaaDoorDoorKit
import Derived.Test.YtmkbgdgfbmfbdaaDoorCards
import Derived.Test.YtmkbgdgfbmfbdaaDoorTie
import Derived.LaidMore
import Derived.LaidLaws
import Derived.Stop.LaidErr
import Derived.SevenTiedAt
namespace Go.Proofs.YtmkbgdgfbmfbdaaDoor.LXQueues
open Go.RowKit Go.ChangeShapes Go.WideShapes Go.ChangeAt Go.Joins

theorem small_of {xs : List Int} (h : ∀ x ∈ xs, (Lit.int .i16 x).wf = true) : ∀ x ∈ xs, Small x := fun x hx => by
  exact bounds_i16 (h x hx)
theorem keys_items (b : Int) (xs : List Int) : keysOf (itemsOf b xs) = xs.map (· + b) := by
  apply List.ext_getElem?
  intro i
  simp [keysOf, itemsOf, List.getElem?_mapIdx, Function.comp_def]

theorem sorted_pairs {ks : List Int} (h : Asc ks) (z : Int) : MG.Up (ks.map fun k => (k, z)) := List.pairwise_map.2 h
theorem take_snocp {ks : List Int} {i : Nat} {x z : Int} (h : ks[i]? = some x) : (((ks.map fun k => (k, z)).take (i + 1)).map rec2).flatten = (((ks.map fun k => (k, z)).take i).map rec2).flatten ++ [.int .i64 x, .int .i64 z] := by
  rw [List.take_add_one, List.getElem?_map, h]
  simp [rec2]

set_option maxRecDepth 100000 in
set_option maxHeartbeats 4000000 in
theorem trivial_ {W : World} {so so2 : Option Addr} {n m cp cp2 : Nat} (h : ¬ (0 < n ∧ n ≤ 15 ∧ 0 < m ∧ m ≤ 15)) :
    Calls Tryd.prog 6 #[.slice so n cp, .slice so2 m cp2] W fun e W' => e = .returned (.bool true) ∧ Below W.heap.size W W' := by
  by_cases h1 : (2147483647 : Int) < (n : Int)
  · have g1 : decide ((2147483647 : Int) < (n : Int)) = true := decide_eq_true h1
    clear h
    go_enter Tryd.func6, Tryd.ntmps6
    go_wp2_with fail
    go_ret
    exact ⟨rfl, Below.refl _ _⟩
  have g1 : decide ((2147483647 : Int) < (n : Int)) = false := decide_eq_false h1
  by_cases h2 : (2147483647 : Int) < (m : Int)
  · have g2 : decide ((2147483647 : Int) < (m : Int)) = true := decide_eq_true h2
    clear h
    go_enter Tryd.func6, Tryd.ntmps6
    go_wp2_with fail
    go_ret
    exact ⟨rfl, Below.refl _ _⟩
  have g2 : decide ((2147483647 : Int) < (m : Int)) = false := decide_eq_false h2
  by_cases h3 : ¬ (0 < n ∧ n ≤ 30)
  · clear h
    go_enter Tryd.func6, Tryd.ntmps6
    go_wp2_with fail
    refine (few_any _ _ _ _).mono ?_
    rintro e w' ⟨rfl, rfl⟩
    rw [(show (decide (0 < n) && decide (n ≤ 30)) = false by simp; omega)]
    go_wp2_with fail
    go_ret
    exact ⟨rfl, Below.refl _ _⟩
  have h3 : 0 < n ∧ n ≤ 30 := Decidable.not_not.1 h3
  by_cases h4 : ¬ (0 < m ∧ m ≤ 30)
  · clear h
    go_enter Tryd.func6, Tryd.ntmps6
    go_wp2_with fail
    refine (few_any _ _ _ _).mono ?_
    rintro e w' ⟨rfl, rfl⟩
    rw [(show (decide (0 < n) && decide (n ≤ 30)) = true by simp; omega)]
    go_wp2_with fail
    refine (few_any _ _ _ _).mono ?_
    rintro e w' ⟨rfl, rfl⟩
    rw [(show (decide (0 < m) && decide (m ≤ 30)) = false by simp; omega)]
    go_wp2_with fail
    go_ret
    exact ⟨rfl, Below.refl _ _⟩
  have h4 : 0 < m ∧ m ≤ 30 := Decidable.not_not.1 h4
  by_cases h5 : 15 < n
  · have g3 : decide ((15 : Int) < (n : Int)) = true := by simp; omega
    clear h
    go_enter Tryd.func6, Tryd.ntmps6
    go_wp2_with fail
    refine (few_any _ _ _ _).mono ?_
    rintro e w' ⟨rfl, rfl⟩
    rw [(show (decide (0 < n) && decide (n ≤ 30)) = true by simp; omega)]
    go_wp2_with fail
    refine (few_any _ _ _ _).mono ?_
    rintro e w' ⟨rfl, rfl⟩
    rw [(show (decide (0 < m) && decide (m ≤ 30)) = true by simp; omega)]
    go_wp2_with fail
    go_ret
    exact ⟨rfl, Below.refl _ _⟩
  · have g3 : decide ((15 : Int) < (n : Int)) = false := by simp; omega
    have g4 : decide ((15 : Int) < (m : Int)) = true := by simp; omega
    clear h
    go_enter Tryd.func6, Tryd.ntmps6
    go_wp2_with fail
    refine (few_any _ _ _ _).mono ?_
    rintro e w' ⟨rfl, rfl⟩
    rw [(show (decide (0 < n) && decide (n ≤ 30)) = true by simp; omega)]
    go_wp2_with fail
    refine (few_any _ _ _ _).mono ?_
    rintro e w' ⟨rfl, rfl⟩
    rw [(show (decide (0 < m) && decide (m ≤ 30)) = true by simp; omega)]
    go_wp2_with fail
    go_ret
    exact ⟨rfl, Below.refl _ _⟩

set_option maxRecDepth 100000 in
set_option maxHeartbeats 8000000 in
theorem walk {W : World} {so so2 : Option Addr} {n m cp cp2 : Nat} {xs ys : List Int} (hl : xs.length = n) (hl2 : ys.length = m) (hv : 0 < n → Vals W (.slice so n cp) (xs.map (Value.int .i16))) (hv2 : 0 < m → Vals W (.slice so2 m cp2) (ys.map (Value.int .i16))) (hb : ∀ x ∈ xs, (Lit.int .i16 x).wf = true) (hb2 : ∀ x ∈ ys, (Lit.int .i16 x).wf = true) :
    Calls Tryd.prog 6 #[.slice so n cp, .slice so2 m cp2] W fun e W' => e = .returned (.bool true) ∧ Below W.heap.size W W' := by
  by_cases hok : ¬ (0 < n ∧ n ≤ 15 ∧ 0 < m ∧ m ≤ 15)
  · exact trivial_ hok
  obtain ⟨h0, hn, h0', hm⟩ := Decidable.not_not.1 hok
  clear hok
  obtain ⟨i0, hi, hz0, hz1, hz2⟩ := info_at infoP
  have HI : Hid (Tryd.prog.info? 48 = some i0 ∧ i0.zero = some (.agg #[.int .i64 0, .int .i64 0]) ∧ i0.size = 2 ∧ i0.bytes = 16) := ⟨hi, hz0, hz1, hz2⟩
  clear hi hz0 hz1 hz2
  obtain ⟨j0, hi, hz0, hz1, hz2⟩ := info_at MG.infoG
  have HJ : Hid (Tryd.prog.info? 44 = some j0 ∧ j0.zero = some (.agg #[.int .i64 0, .int .i64 0]) ∧ j0.size = 2 ∧ j0.bytes = 16) := ⟨hi, hz0, hz1, hz2⟩
  clear hi hz0 hz1 hz2
  have HV : Hid (Vals W (.slice so n cp) (xs.map (Value.int .i16)) ∧ xs.length = n ∧ (∀ x ∈ xs, Small x) ∧ Vals W (.slice so2 m cp2) (ys.map (Value.int .i16)) ∧ ys.length = m ∧ ∀ x ∈ ys, Small x) := ⟨hv h0, hl, small_of hb, hv2 h0', hl2, small_of hb2⟩
  clear hl hl2 hv hv2 hb hb2
  have g1 : decide ((2147483647 : Int) < (n : Int)) = false := by simp; omega
  have g2 : decide ((2147483647 : Int) < (m : Int)) = false := by simp; omega
  have g3 : decide ((15 : Int) < (n : Int)) = false := by simp; omega
  have g4 : decide ((15 : Int) < (m : Int)) = false := by simp; omega
  go_enter Tryd.func6, Tryd.ntmps6
  go_wp2_with fail
  refine (few_any _ _ _ _).mono ?_
  rintro e w' ⟨rfl, rfl⟩
  rw [(show (decide (0 < n) && decide (n ≤ 30)) = true by simp; omega)]
  go_wp2_with fail
  refine (few_any _ _ _ _).mono ?_
  rintro e w' ⟨rfl, rfl⟩
  rw [(show (decide (0 < m) && decide (m ≤ 30)) = true by simp; omega)]
  go_wp2_with fail
  refine (items_any (b := 0) HV.out.1 (by rw [HV.out.2.1]; omega) HV.out.2.2.1 (by unfold Small; omega)).mono ?_
  rintro e w1 ⟨sv, rfl, hown, hb1⟩
  rw [HV.out.2.1] at hown
  obtain ⟨s1, c1, rfl⟩ := own_shape hown
  have H1 : Hid (Pairs w1 (.slice s1 n c1) (itemsOf 0 xs) ∧ Below W.heap.size W w1) := ⟨Pairs.of_own hown, hb1⟩
  clear hown hb1
  go_wp2_with fail
  refine (queue_any H1.out.1 (by omega) h0).mono ?_
  rintro e w2 ⟨s2, n2, c2, ka, rfl, hi2, ha2, hp2, hl2, hb2⟩
  have hn2 : n2 = n := by
    have := hp2.length_eq
    rw [keys_items, List.length_map, HV.out.2.1] at this
    omega
  subst hn2
  rw [keys_items] at hp2
  have H2 : Hid (Ints w2 (.slice s2 n2 c2) ka ∧ Asc ka ∧ ka.Perm (xs.map (· + 0)) ∧ ka.length = n2 ∧ Below W.heap.size W w2) := ⟨hi2, ha2, hp2, hl2, H1.out.2.trans (hb2.mono H1.out.2.size)⟩
  clear hi2 ha2 hp2 hl2 hb2
  go_wp2_with fail
  refine (items_any (b := 0) (HV.out.2.2.2.1.same H2.out.2.2.2.2) (by rw [HV.out.2.2.2.2.1]; omega) HV.out.2.2.2.2.2 (by unfold Small; omega)).mono ?_
  rintro e w3 ⟨sv, rfl, hown, hb1⟩
  rw [HV.out.2.2.2.2.1] at hown
  obtain ⟨s3, c3, rfl⟩ := own_shape hown
  have H3 : Hid (Pairs w3 (.slice s3 m c3) (itemsOf 0 ys) ∧ Below W.heap.size W w3 ∧ Ints w3 (.slice s2 n2 c2) ka) := ⟨Pairs.of_own hown, H2.out.2.2.2.2.trans (hb1.mono H2.out.2.2.2.2.size), H2.out.1.same hb1⟩
  clear hown hb1
  go_wp2_with fail
  refine (queue_any H3.out.1 (by omega) h0').mono ?_
  rintro e w4 ⟨s4, n4, c4, kb, rfl, hi2, ha2, hp2, hl2, hb2⟩
  have hn4 : n4 = m := by
    have := hp2.length_eq
    rw [keys_items, List.length_map, HV.out.2.2.2.2.1] at this
    omega
  subst hn4
  rw [keys_items] at hp2
  have H4 : Hid (Ints w4 (.slice s4 n4 c4) kb ∧ Asc kb ∧ kb.Perm (ys.map (· + 0)) ∧ kb.length = n4 ∧ Below W.heap.size W w4 ∧ Ints w4 (.slice s2 n2 c2) ka) := ⟨hi2, ha2, hp2, hl2, H3.out.2.1.trans (hb2.mono H3.out.2.1.size), H3.out.2.2.same hb2⟩
  clear hi2 ha2 hp2 hl2 hb2
  go_wp2_with fail
  refine (items_any (b := 0) (HV.out.1.same H4.out.2.2.2.2.1) (by rw [HV.out.2.1]; omega) HV.out.2.2.1 (by unfold Small; omega)).mono ?_
  rintro e w5 ⟨sv, rfl, hown, hb1⟩
  rw [HV.out.2.1] at hown
  obtain ⟨g5, c5, rfl⟩ := own_some hown h0
  have H5 : Hid (w5.ownsRow w4.heap.size 48 2 (.slice (some ⟨g5, 0, none⟩) n2 c5) n2 ((itemsOf 0 xs).map rec2).flatten ∧ Below w4.heap.size w4 w5) := ⟨hown, hb1⟩
  clear hown hb1
  go_wp2_with fail
  refine (items_any (b := 0) (HV.out.2.2.2.1.same (H4.out.2.2.2.2.1.trans (H5.out.2.mono H4.out.2.2.2.2.1.size))) (by rw [HV.out.2.2.2.2.1]; omega) HV.out.2.2.2.2.2 (by unfold Small; omega)).mono ?_
  rintro e w6 ⟨sv, rfl, hown, hb1⟩
  rw [HV.out.2.2.2.2.1] at hown
  obtain ⟨g6, c6, rfl⟩ := own_some hown h0'
  obtain ⟨A, hA⟩ : ∃ A, A = ((itemsOf 0 ys).map rec2).flatten := ⟨_, rfl⟩
  have H6 : Hid (w6.ownsRow w4.heap.size 48 2 (.slice (some ⟨g5, 0, none⟩) n2 c5) n2 ((itemsOf 0 xs).map rec2).flatten ∧ A = ((itemsOf 0 ys).map rec2).flatten ∧ A.length = n4 * 2 ∧ (∀ j u, A[j]? = some u → w6.cell? ((⟨g6, 0, none⟩ : Addr).add j) = some u) ∧ (∀ u ∈ A, u.oneCell' = true) ∧ Below w4.heap.size w4 w6) := by
    refine ⟨own_same H5.out.1 fun k _ hk => hb1.block k hk, hA, by rw [hA]; exact hown.1, by rw [hA]; exact hown.cells (g := g6) rfl, fun u hu => ?_, H5.out.2.trans (hb1.mono H5.out.2.size)⟩
    rw [hA] at hu
    obtain ⟨r, hr, hur⟩ := List.mem_flatten.1 hu
    obtain ⟨x, _, rfl⟩ := List.mem_map.1 hr
    simp [rec2] at hur
    rcases hur with rfl | rfl <;> rfl
  have s6 := H6.out.2.2.2.2.2.size
  clear hown hb1 hA
  go_wp2_with (at_builtin; go_must (refine wpList_append_own_at _ rfl (.tmp 57) (.tmp 59) 24 rfl w4.heap.size 48 i0 (.agg #[.int .i64 0, .int .i64 0]) 2 16 Tryd.underlying24 HI.out.1 HI.out.2.1 HI.out.2.2.1 HI.out.2.2.2 rfl (by decide) (.slice (some ⟨g5, 0, none⟩) n2 c5) n2 _ rfl H6.out.1 ⟨g6, 0, none⟩ n4 c6 A rfl H6.out.2.2.1 H6.out.2.2.2.1 H6.out.2.2.2.2.1 ?c3 ?c4 ?c5 ?_))
  case c3 => unfold maxLen; omega
  case c4 => omega
  case c5 => exact s6
  intro v7 w7 hown hgrow _ _
  obtain ⟨s7, c7, rfl⟩ := own_shape hown
  obtain ⟨n7, hn7⟩ : ∃ n7, n7 = n2 + n4 := ⟨_, rfl⟩
  rw [← hn7] at hown ⊢
  have hn71 : n7 ≤ 60 := by omega
  have hn72 : 0 < n7 := by omega
  have H7 : Hid (Pairs w7 (.slice s7 n7 c7) (itemsOf 0 xs ++ itemsOf 0 ys) ∧ Below w4.heap.size w4 w7 ∧ n7 = n2 + n4) := by
    refine ⟨?_, H6.out.2.2.2.2.2.trans ((Below.refl _ _).grown hgrow s6 (fun k hk => (own_block H6.out.1 hk).1)), hn7⟩
    rw [H6.out.2.1, ← List.flatten_append, ← List.map_append] at hown
    exact Pairs.of_own hown
  have s7' := H7.out.2.1.size
  clear hown hgrow hn7
  go_wp2_with fail
  refine (queue_any H7.out.1 hn71 hn72).mono ?_
  rintro e w8 ⟨s8, n8, c8, kc, rfl, hi2, ha2, hp2, hl2, hb2⟩
  have hp3 : kc.Perm (xs.map (· + 0) ++ ys.map (· + 0)) := by
    have h := hp2
    rw [keysOf, List.map_append] at h
    have e1 := keys_items 0 xs
    have e2 := keys_items 0 ys
    unfold keysOf at e1 e2
    rw [e1, e2] at h
    exact h
  have hn8 : n8 ≤ 60 := by
    have h := hp3.length_eq
    rw [List.length_append, List.length_map, List.length_map, HV.out.2.1, HV.out.2.2.2.2.1] at h
    omega
  have hb8 : Below w4.heap.size w4 w8 := H7.out.2.1.trans (hb2.mono s7')
  have H8 : Hid (Ints w8 (.slice s8 n8 c8) kc ∧ Asc kc ∧ kc.Perm (xs.map (· + 0) ++ ys.map (· + 0)) ∧ Ints w8 (.slice s2 n2 c2) ka ∧ Ints w8 (.slice s4 n4 c4) kb ∧ Below W.heap.size W w8) := ⟨hi2, ha2, hp3, H4.out.2.2.2.2.2.same hb8, H4.out.1.same hb8, H4.out.2.2.2.2.1.trans (hb8.mono H4.out.2.2.2.2.1.size)⟩
  have s8' := H8.out.2.2.2.2.2.size
  clear hi2 ha2 hp2 hl2 hb2 hp3 hb8
  go_wp2_with fail
  go_loopw [11, 14, 66] (fun sv _ iv wr => ∃ (i : Nat), iv = .int .i64 (i : Nat) ∧ i ≤ n2 ∧ Hid (wr.ownsRow w8.heap.size 44 2 sv i (((ka.map fun k => (k, (0 : Int))).take i).map rec2).flatten ∧ Below w8.heap.size w8 wr)) (fun _ _ iv _ => n2 - (intOf iv).toNat)
  case atStart => exact ⟨0, rfl, by omega, World.ownsRow_nil _ _ _ _, Below.refl _ _⟩
  case round =>
    obtain ⟨i, rfl, hin, hR⟩ := hrel
    have HR : Hid (wr.ownsRow w8.heap.size 44 2 u11 i (((ka.map fun k => (k, (0 : Int))).take i).map rec2).flatten ∧ Below w8.heap.size w8 wr) := hR
    clear hR
    obtain ⟨t5, d5, rfl⟩ := own_shape HR.out.1
    by_cases hlt : i < n2
    · have z1 : (i : Int) < (n2 : Int) := by omega
      have z0 : (0 : Int) ≤ (i : Int) := by omega
      obtain ⟨x, hx⟩ : ∃ x, ka[i]? = some x := ⟨_, List.getElem?_eq_getElem (by have := H2.out.2.2.2.1; omega)⟩
      obtain ⟨b, o, hbo, d0⟩ := Ints.at H8.out.2.2.2.1 hx
      have c0 : wr.cell? ⟨b, o + i, none⟩ = some (.int .i64 x) := (HR.out.2.cell (cell_lt' d0)).trans d0
      subst hbo
      have HX := Lib.hid hx
      clear d0 hx
      go_wp2_with (at_builtin; go_must (refine wpList_append_own_at _ rfl (.tmp 70) (.tmp 73) 42 rfl w8.heap.size 44 j0 (.agg #[.int .i64 0, .int .i64 0]) 2 16 Tryd.underlying42 HJ.out.1 HJ.out.2.1 HJ.out.2.2.1 HJ.out.2.2.2 rfl (by decide) (.slice t5 i d5) i _ rfl (HR.out.1.alloc _) ⟨wr.heap.size, 0, none⟩ 1 1 [.int .i64 x, .int .i64 0] rfl rfl ?c1 ?c2 ?c3 ?c4 ?c5 ?_))
      case c1 => exact MG.two_cells
      case c2 => intro u hu; simp at hu; rcases hu with rfl | rfl <;> rfl
      case c3 => unfold maxLen; omega
      case c4 => omega
      case c5 => have := HR.out.2.size; simp; omega
      intro v' wx hown' hgrow _ _
      obtain ⟨t6, d6, rfl⟩ := own_shape hown'
      have HQ : Hid (wx.ownsRow w8.heap.size 44 2 (.slice t6 (i + 1) d6) (i + 1) (((ka.map fun k => (k, (0 : Int))).take (i + 1)).map rec2).flatten ∧ Below w8.heap.size w8 wx) := by
        refine ⟨?_, HR.out.2.trans (own_grown HR.out.1 hgrow HR.out.2.size)⟩
        rw [take_snocp HX.out, List.map_take, List.map_map]
        exact hown'
      clear hown' hgrow
      go_wp2_with fail
      go_roundw
      case rel => exact ⟨i + 1, by go_num, by omega, HQ.out⟩
      case measure => simp [intOf]; omega
    · have z1 : ¬ (i : Int) < (n2 : Int) := by omega
      obtain rfl : i = n2 := by omega
      obtain ⟨w9, hw9⟩ : ∃ w9, w9 = wr := ⟨_, rfl⟩
      rw [← hw9] at HR ⊢
      have H9 : Hid (Pairs w9 (.slice t5 i d5) (ka.map fun k => (k, (0 : Int))) ∧ Ints w9 (.slice s8 n8 c8) kc ∧ Ints w9 (.slice s4 n4 c4) kb ∧ Below W.heap.size W w9) := by
        have h := HR.out.1
        rw [List.take_of_length_le (by rw [List.length_map, H2.out.2.2.2.1]; exact Nat.le_refl _)] at h
        exact ⟨Pairs.of_own h, H8.out.1.same HR.out.2, H8.out.2.2.2.2.1.same HR.out.2, H8.out.2.2.2.2.2.trans (HR.out.2.mono s8')⟩
      clear HR hw9
      have s9' := H9.out.2.2.2.size
      go_wp2_with fail
      go_loopw [12, 16, 78] (fun sv _ iv wr => ∃ (k : Nat), iv = .int .i64 (k : Nat) ∧ k ≤ n4 ∧ Hid (wr.ownsRow w9.heap.size 44 2 sv k (((kb.map fun q => (q, (1 : Int))).take k).map rec2).flatten ∧ Below w9.heap.size w9 wr)) (fun _ _ iv _ => n4 - (intOf iv).toNat)
      case atStart => exact ⟨0, rfl, by omega, World.ownsRow_nil _ _ _ _, Below.refl _ _⟩
      case round =>
        obtain ⟨k, rfl, hin, hR⟩ := hrel
        have HR : Hid (wr.ownsRow w9.heap.size 44 2 u12 k (((kb.map fun q => (q, (1 : Int))).take k).map rec2).flatten ∧ Below w9.heap.size w9 wr) := hR
        clear hR
        obtain ⟨t7, d7, rfl⟩ := own_shape HR.out.1
        by_cases hlt : k < n4
        · have z1 : (k : Int) < (n4 : Int) := by omega
          have z0 : (0 : Int) ≤ (k : Int) := by omega
          obtain ⟨x, hx⟩ : ∃ x, kb[k]? = some x := ⟨_, List.getElem?_eq_getElem (by have := H4.out.2.2.2.1; omega)⟩
          obtain ⟨b, o, hbo, d0⟩ := Ints.at H9.out.2.2.1 hx
          have c0 : wr.cell? ⟨b, o + k, none⟩ = some (.int .i64 x) := (HR.out.2.cell (cell_lt' d0)).trans d0
          subst hbo
          have HX := Lib.hid hx
          clear d0 hx
          go_wp2_with (at_builtin; go_must (refine wpList_append_own_at _ rfl (.tmp 82) (.tmp 85) 42 rfl w9.heap.size 44 j0 (.agg #[.int .i64 0, .int .i64 0]) 2 16 Tryd.underlying42 HJ.out.1 HJ.out.2.1 HJ.out.2.2.1 HJ.out.2.2.2 rfl (by decide) (.slice t7 k d7) k _ rfl (HR.out.1.alloc _) ⟨wr.heap.size, 0, none⟩ 1 1 [.int .i64 x, .int .i64 1] rfl rfl ?c1 ?c2 ?c3 ?c4 ?c5 ?_))
          case c1 => exact MG.two_cells
          case c2 => intro u hu; simp at hu; rcases hu with rfl | rfl <;> rfl
          case c3 => unfold maxLen; omega
          case c4 => omega
          case c5 => have := HR.out.2.size; simp; omega
          intro v' wx hown' hgrow _ _
          obtain ⟨t8, d8, rfl⟩ := own_shape hown'
          have HQ : Hid (wx.ownsRow w9.heap.size 44 2 (.slice t8 (k + 1) d8) (k + 1) (((kb.map fun q => (q, (1 : Int))).take (k + 1)).map rec2).flatten ∧ Below w9.heap.size w9 wx) := by
            refine ⟨?_, HR.out.2.trans (own_grown HR.out.1 hgrow HR.out.2.size)⟩
            rw [take_snocp HX.out, List.map_take, List.map_map]
            exact hown'
          clear hown' hgrow
          go_wp2_with fail
          go_roundw
          case rel => exact ⟨k + 1, by go_num, by omega, HQ.out⟩
          case measure => simp [intOf]; omega
        · have z1 : ¬ (k : Int) < (n4 : Int) := by omega
          obtain rfl : k = n4 := by omega
          have H10 : Hid (Pairs wr (.slice t7 k d7) (kb.map fun q => (q, (1 : Int))) ∧ Pairs wr (.slice t5 i d5) (ka.map fun k => (k, (0 : Int))) ∧ Ints wr (.slice s8 n8 c8) kc ∧ Below W.heap.size W wr) := by
            have h := HR.out.1
            rw [List.take_of_length_le (by rw [List.length_map, H4.out.2.2.2.1]; exact Nat.le_refl _)] at h
            exact ⟨Pairs.of_own h, Recs.same H9.out.1 HR.out.2, H9.out.2.1.same HR.out.2, H9.out.2.2.2.trans (HR.out.2.mono s9')⟩
          clear HR
          have s10 := H10.out.2.2.2.size
          go_wp2_with fail
          refine (MG.mgMerge_any H10.out.2.1 H10.out.1 (by omega) (by omega) (sorted_pairs H2.out.2.1 0) (sorted_pairs H4.out.2.1 1)).mono ?_
          rintro e w11 ⟨v11, rfl, M, hown, hp, hup, hb⟩
          obtain ⟨s11, c11, rfl⟩ := own_shape hown
          obtain ⟨n11, hn11⟩ : ∃ n11, n11 = i + k := ⟨_, rfl⟩
          rw [← hn11] at hown ⊢
          have hn12 : n11 ≤ 200 := by omega
          have hkeys : M.map (·.1) = kc := by
            refine asc_unique (List.pairwise_map.2 hup) H8.out.2.1 ?_
            have h1 := hp.map (·.1)
            rw [List.map_append, List.map_map, List.map_map] at h1
            have e1 : (ka.map ((·.1) ∘ fun k => (k, (0 : Int)))) = ka := by
              have : ((·.1) ∘ fun k : Int => (k, (0 : Int))) = id := rfl
              rw [this, List.map_id]
            have e2 : (kb.map ((·.1) ∘ fun k => (k, (1 : Int)))) = kb := by
              have : ((·.1) ∘ fun k : Int => (k, (1 : Int))) = id := rfl
              rw [this, List.map_id]
            rw [e1, e2] at h1
            exact h1.trans ((H2.out.2.2.1.append H4.out.2.2.1).trans H8.out.2.2.1.symm)
          have H11 : Hid (Pairs w11 (.slice s11 n11 c11) M ∧ Ints w11 (.slice s8 n8 c8) kc ∧ Below W.heap.size W w11 ∧ M.map (·.1) = kc) := ⟨Pairs.of_own hown, H10.out.2.2.1.same hb, H10.out.2.2.2.trans (hb.mono s10), hkeys⟩
          have s11' := H11.out.2.2.1.size
          clear hown hp hup hb hn11 hkeys
          go_wp2_with fail
          refine (MG.keys_any H11.out.1 hn12).mono ?_
          rintro e w12 ⟨v12, rfl, hown, hb⟩
          obtain ⟨s12, c12, rfl⟩ := own_shape hown
          have H12 : Hid (Ints w12 (.slice s12 n11 c12) kc ∧ Ints w12 (.slice s8 n8 c8) kc ∧ Below W.heap.size W w12) := by
            refine ⟨?_, H11.out.2.1.same hb, H11.out.2.2.1.trans (hb.mono s11')⟩
            have h := Vals.of_own hown
            rw [← H11.out.2.2.2, Ints, List.map_map]
            exact h
          clear hown hb
          go_wp2_with fail
          refine (equal_any H12.out.1 H12.out.2.1 (by omega) (by omega)).mono ?_
          rintro e w13 ⟨he, hb⟩
          rw [decide_eq_true rfl] at he
          subst he
          have H13 : Hid (Below W.heap.size W w13) := H12.out.2.2.trans (hb.mono H12.out.2.2.size)
          clear hb
          go_wp2_with fail
          go_ret
          exact ⟨rfl, H13.out⟩

theorem own : ownKnob Tryd.prog.godebug = none := by kernel_rfl
theorem laidOut : laidOutB Tryd.prog = true := by kernel_rfl
theorem door_met (os : Os) (args : Array Value) : laidMetH Tryd.prog Rows.fnXQueuesRow.laid ((World.doorLaid Tryd.prog 400 os).forCall (fun _ _ => 0) ⟨#[], args, []⟩).memory :=
  laidMetH_of_parts3 (fuel := 8) (laidMet_of_run' 8 (by kernel_rfl) (by kernel_rfl)) (by kernel_rfl) (by kernel_rfl)

set_option maxRecDepth 100000 in
theorem lifted (os : Os) (started : os.Started) (H : Type) (enc : TypeId × Value → H) :
    ReturnsInHanded {} Tryd.checked os 6 .any (fun w args => (Rows.fnXQueuesSpec.pre enc Tryd.prog Tryd.f6 [] false w args ∧ laidMetH Tryd.prog Rows.fnXQueuesRow.laid w) ∧ sizedMet enc Tryd.prog Tryd.f6 (OpenSpec.ofChange Rows.fnXQueuesSpec) false w args) (Rows.fnXQueuesSpec.post enc Tryd.prog Tryd.f6 false true false false) := by
  refine DoorKit.lifted (C := Tryd.checked) (T := 4) own started (by kernel_rfl) Tryd.func6 laidOut (by kernel_rfl) (by kernel_rfl) Tryd.underlying4 (by kernel_rfl) ?_
    (ChangeSpec.witness_shaped (enc := enc) (C := Tryd.checked) (os := os) (X := fun w _ => laidMetH Tryd.prog Rows.fnXQueuesRow.laid w) false (World.doorLaid Tryd.prog 400 os) #[.slice none 0 0, .slice none 0 0] 8 rfl (World.shaped_of_RefB (by kernel_rfl) (by kernel_rfl)) (by kernel_rfl) (by kernel_rfl) (by kernel_rfl) (door_met os _)) ?_
  · intro ds gs hd hg
    match ds, hd, gs, hg with
    | [_, _], _, [_, _, _], _ => rfl
  · intro W base args ds p hval0 hA0 _ hL
    have hval : ∀ (j : Nat) t v, Tryd.f6.params[j]? = some t → args[j]? = some v → Value.okWide Tryd.prog W .any base t v := hval0
    have hA : DataW.TrodAll enc Tryd.prog W 0 (fun _ => true) true Tryd.f6.params.toList args.toList ds p := hA0
    rw [Tryd.params6] at hA hval
    obtain ⟨v0, vs0, d0, ds0, p0, q0, hargs, rfl, rfl, h0, r0⟩ := trodAll_cons hA
    obtain ⟨v1, vs1, d1, ds1, p1, q1, rfl, rfl, rfl, h1, r1⟩ := trodAll_cons r0
    obtain ⟨rfl, rfl, rfl⟩ := trodAll_nil r1
    obtain rfl : args = #[v0, v1] := by cases args; simp_all
    obtain ⟨sk0, nk0, ck0, rfl⟩ := okWide_slice Tryd.underlying22 (hval 0 22 v0 rfl rfl)
    obtain ⟨fu0, hf0⟩ := h0
    obtain ⟨so0, n0, cp0, xs0, hw0, hl0, hv0, hb0⟩ := open_ilist Tryd.underlying22 Tryd.underlying37 (k := .i16) (by kernel_rfl) hf0
    rw [hw0]
    obtain ⟨sk1, nk1, ck1, rfl⟩ := okWide_slice Tryd.underlying22 (hval 1 22 v1 rfl rfl)
    obtain ⟨fu1, hf1⟩ := h1
    obtain ⟨so1, n1, cp1, xs1, hw1, hl1, hv1, hb1⟩ := open_ilist Tryd.underlying22 Tryd.underlying37 (k := .i16) (by kernel_rfl) hf1
    rw [hw1]
    exact (walk hl0 hl1 hv0 hv1 hb0 hb1)

theorem row_proved : Rows.FnXQueuesSaid :=
  OpenClaim.holds_of_wide 6 Tryd.f6 rfl rfl rfl rfl rfl rfl rfl ⟨rfl, rfl, rfl, rfl, rfl⟩ rfl rfl rfl rfl rfl (by kernel_rfl) Tryd.func6 (by kernel_rfl)
    (of_decide_eq_true (by kernel_rfl)) (by unfold Func.isWrapper; first | (rw [if_pos (by decide +kernel)]; kernel_rfl) | (rw [if_neg (by decide +kernel)]; exact ⟨rfl, rfl⟩))
    (fun os started H enc _ => lifted os started H enc)

theorem proved : Rows.FnXQueuesCardSaid :=
  Claim7.holds_tied_plain_at .later [] Rows.fnXQueuesCard.laidKinds true Rows.fnXQueuesCard.stood.harness Rows.fnXQueuesCard.stood.looks
    row_proved (fun _ h => by cases h) (by kernel_rfl) (fun _ h => by cases h) fnXQueues_row_tie rfl ⟨rfl, rfl⟩ (by kernel_rfl) rfl
    (fun f fn hf hfn => by
      obtain rfl : f = 6 := Option.some.inj ((show Tryd.prog.funcNamed "given.example/pub-spokeshave/laws.FnXQueues" = some 6 by kernel_rfl).symm.trans hf) |>.symm
      obtain rfl : fn = Tryd.f6 := (Option.some.inj (Tryd.func6.symm.trans hfn)).symm
      exact ⟨by kernel_rfl, fun j t ht => by
        have hall : (Tryd.f6.params.toList.all fun u => !Tryd.prog.wantsStandIn u) = true := by kernel_rfl
        have hm : t ∈ Tryd.f6.params.toList := Array.mem_toList_iff.2 (Array.mem_of_getElem? ht)
        exact (show Tryd.prog.wantsStandIn t = false by simpa using List.all_eq_true.1 hall t hm)⟩)
    (by kernel_rfl)
#print axioms proved
end Go.Proofs.YtmkbgdgfbmfbdaaDoor.LXQueues
