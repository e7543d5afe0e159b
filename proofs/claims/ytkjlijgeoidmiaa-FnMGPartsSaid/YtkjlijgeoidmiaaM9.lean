/- Parts of laws over lists of numbers: dsInts, slices.Equal, Clone and Sort at int, dxSorted; dmItems, dmAwake. -/
import Derived.Test.YtkjlijgeoidmiaaM8
import Derived.Test.YtkjlijgeoidmiaaI5
namespace Go.Proofs.Ytkjlijgeoidmiaa.MG
open Go.RowKit Go.Shelf Go.Lib Go.Sort

theorem vals_blk {w : World} {b : Nat} {vs : List Value} {T : TypeId} (h : Blk w b vs.toArray T) : Vals w (.slice (some ⟨b, 0, none⟩) vs.length vs.length) vs :=
  Or.inr ⟨b, 0, vs.length, rfl, Nat.le_refl _, fun i hi => by
    rw [Nat.zero_add, List.getElem?_eq_getElem hi]
    exact h.cell (by simp [hi])⟩
theorem own_block' {w : World} {base : Nat} {e : TypeId} {size : Nat} {v : Value} {n : Nat} {xs : List Value} (h : w.ownsRow base e size v n xs) {k : Nat} (hk' : v.ownBlock = some k) : base ≤ k := by
  obtain ⟨_, h | ⟨g, cap, cur, hv, hge, hh, _⟩⟩ := h
  · rw [h.1] at hk'; simp [Value.ownBlock] at hk'
  · rw [hv] at hk'; simp [Value.ownBlock] at hk'; subst hk'; exact hge
set_option maxRecDepth 100000 in
set_option maxHeartbeats 1000000 in
theorem ints_any {w : World} {sl : Value} {xs : List Int} (h : I16s w sl xs) (hl : xs.length ≤ 1000) (hb : ∀ x ∈ xs, -32768 ≤ x ∧ x ≤ 32767) :
    Calls Try.prog 25 #[sl] w fun e w' => ∃ v, e = .returned v ∧ w'.ownsRow w.heap.size 3 1 v xs.length (xs.map (Value.int .i64)) ∧ Below w.heap.size w w' := by
  obtain ⟨i0, hi, hz0, hz1, hz2⟩ := info_at infoI
  have HI : Hid (Try.prog.info? 3 = some i0 ∧ i0.zero = some (.int .i64 0) ∧ i0.size = 1 ∧ i0.bytes = 8) := ⟨hi, hz0, hz1, hz2⟩
  clear hi hz0 hz1 hz2
  have H := Lib.hid h
  have HBD := Lib.hid hb
  clear hb
  obtain ⟨so, cp, rfl⟩ := h.shape
  clear h
  obtain ⟨n, hn⟩ : ∃ n, n = xs.length := ⟨_, rfl⟩
  have HN := Lib.hid hn
  rw [List.length_map, ← hn]
  have hl2 : n ≤ 1000 := by omega
  clear hn hl
  go_enter Try.func25, Try.ntmps25
  go_wp2_with fail
  go_loopw [3, 5, 8] (fun ov _ kv wr => ∃ k : Nat, k ≤ n ∧ kv = .int .i64 k ∧ Hid (wr.ownsRow w.heap.size 3 1 ov k ((xs.take k).map (Value.int .i64)) ∧ Below w.heap.size w wr)) (fun _ _ kv _ => n - (intOf kv).toNat)
  case atStart => exact ⟨0, by omega, rfl, World.ownsRow_nil _ _ _ _, Below.refl _ _⟩
  case round =>
    obtain ⟨k, hk, rfl, hR⟩ := hrel
    have HR : Hid (wr.ownsRow w.heap.size 3 1 _ k ((xs.take k).map (Value.int .i64)) ∧ Below w.heap.size w wr) := hR
    clear hR
    obtain ⟨so2, cp2, rfl⟩ := own_shape HR.out.1
    by_cases hkn : k < n
    · obtain ⟨x, hx⟩ : ∃ x, xs[k]? = some x := ⟨xs[k]'(by rw [← HN.out]; exact hkn), List.getElem?_eq_getElem _⟩
      have HX := Lib.hid hx
      have hxb := HBD.out x (List.mem_of_getElem? hx)
      have hxl := hxb.1
      have hxh := hxb.2
      clear hxb
      rcases H.out with ⟨_, h2⟩ | ⟨b, o, c, h1, h2, h3⟩
      · simp at h2; rw [HN.out, h2] at hkn; exact absurd hkn (by simp)
      · simp only [Value.slice.injEq] at h1
        obtain ⟨rfl, _, rfl⟩ := h1
        have h4 := h3 k (by rw [List.length_map, ← HN.out]; exact hkn)
        rw [List.getElem?_map, hx] at h4
        have c0 : wr.cell? ⟨b, o + k, none⟩ = some (.int .i16 x) := (HR.out.2.cell (cell_lt' h4)).trans h4
        have hw1 : IntKind.i64.wrap x = x := by rw [IntKind.wrap_i64]; omega
        clear h2 h3 h4 hx
        go_wp2_with (at_builtin; go_must (refine wpList_append_own_at _ rfl _ _ 53 rfl w.heap.size 3 i0 (.int .i64 0) 1 8 Try.underlying53 HI.out.1 HI.out.2.1 HI.out.2.2.1 HI.out.2.2.2 rfl (by decide) _ _ _ rfl (HR.out.1.alloc _) ⟨wr.heap.size, 0, none⟩ 1 1 [.int .i64 x] rfl rfl ?c1 ?c2 ?c3 ?c4 ?c5 ?_))
        case c1 => exact one_cell
        case c2 => intro u hu; simp at hu; subst hu; rfl
        case c3 => unfold maxLen; omega
        case c4 => omega
        case c5 => have := HR.out.2.size; simp; omega
        intro v' w3 hown' hgrow _ hblk
        obtain ⟨so3, cp3, rfl⟩ := own_shape hown'
        have HQ : Hid (w3.ownsRow w.heap.size 3 1 (.slice so3 (k + 1) cp3) (k + 1) ((xs.take (k + 1)).map (Value.int .i64)) ∧ Below w.heap.size w w3) := by
          refine ⟨?_, HR.out.2.trans (own_grown HR.out.1 hgrow HR.out.2.size)⟩
          rw [List.take_add_one, HX.out, List.map_append, List.map_take]
          exact hown'
        clear hown' hgrow hblk c0
        go_wp2_with fail
        go_roundw
        case rel => exact ⟨k + 1, by omega, by go_num, HQ.out⟩
        case measure => simp [intOf]; omega
    · have hkx : k = n := by omega
      have HK := Lib.hid hkx
      clear hkx
      go_wp2_with fail
      go_ret
      refine ⟨_, rfl, ?_, HR.out.2⟩
      have h1 := HR.out.1
      have h2 : xs.take k = xs := by rw [HK.out, HN.out, List.take_length]
      rw [h2] at h1
      have e := HK.out
      clear HK
      subst e
      exact h1



set_option maxRecDepth 100000 in
set_option maxHeartbeats 1000000 in
theorem clone_int {w : World} {b o n cp : Nat} {vs : List Value} (hl : vs.length = n * 1) (hn : n ≤ 100000) (hc : ∀ j u, vs[j]? = some u → w.cell? ⟨b, o + j, none⟩ = some u) (h1 : ∀ u ∈ vs, u.oneCell' = true) :
    Calls Try.prog 58 #[.slice (some ⟨b, o, none⟩) n cp] w fun e w' => ∃ v, e = .returned v ∧ w'.ownsRow w.heap.size 3 1 v n vs ∧ Below w.heap.size w w' := by
  obtain ⟨i0, hi, hz0, hz1, hz2⟩ := info_at infoI
  have HI : Hid (Try.prog.info? 3 = some i0 ∧ i0.zero = some (.int .i64 0) ∧ i0.size = 1 ∧ i0.bytes = 8) := ⟨hi, hz0, hz1, hz2⟩
  clear hi hz0 hz1 hz2
  have HL := Lib.hid hl
  have HC : Hid (∀ j u, vs[j]? = some u → (w.alloc (.cells #[] 3)).cell? ((⟨b, o, none⟩ : Addr).add j) = some u) := Lib.hid fun j u hj => by
    have h2 := hc j u hj
    rw [addr_add]
    exact (((Below.refl w.heap.size w).alloc (Nat.le_refl _) _).cell (cell_lt' h2)).trans h2
  have HO := Lib.hid h1
  have hown : Hid ((w.alloc (.cells #[] 3)).ownsRow w.heap.size 3 1 (.slice (some ⟨w.heap.size, 0, none⟩) 0 0) 0 []) := Lib.hid ⟨by simp, Or.inr ⟨w.heap.size, 0, #[], rfl, Nat.le_refl _, Blk.new w #[] _, by omega, by simp [maxLen], by simp, by simp⟩⟩
  have hnl := fun w : World => Lib.run_eql_slice_nil (P := Try.prog) w 53 3 (some ⟨b, o, none⟩) n cp 0 0 Try.underlying53
  clear hl hc h1
  go_enter Try.func58, Try.ntmps58
  go_wp2_with (at_builtin; go_must (refine wpList_append_own_at _ rfl _ _ 53 rfl w.heap.size 3 i0 (.int .i64 0) 1 8 Try.underlying53 HI.out.1 HI.out.2.1 HI.out.2.2.1 HI.out.2.2.2 rfl (by decide) _ _ _ rfl hown.out ⟨b, o, none⟩ n cp vs rfl HL.out HC.out HO.out ?c3 ?c4 ?c5 ?_))
  case c3 => unfold maxLen; omega
  case c4 => omega
  case c5 => simp
  intro v' w3 hown' hgrow _ _
  obtain ⟨so3, cp3, rfl⟩ := own_shape hown'
  have HQ : Hid (w3.ownsRow w.heap.size 3 1 (.slice so3 n cp3) n vs ∧ Below w.heap.size w w3) := by
    try simp only [Nat.zero_add, List.nil_append] at hown'
    refine ⟨hown', ((Below.refl _ _).alloc (Nat.le_refl _) _).trans ((Below.refl _ _).grown hgrow (by simp) ?_)⟩
    intro k hk
    have := (own_block' hown.out hk)
    omega
  clear hown' hgrow
  go_wp2_with fail
  go_ret
  exact ⟨_, rfl, HQ.out.1, HQ.out.2⟩

theorem sort_int {w : World} {B g n cap : Nat} {xs : List Int} (hown : w.ownsRow B 3 1 (.slice (some ⟨g, 0, none⟩) n cap) n (xs.map (Value.int .i64))) (hB : B ≤ w.heap.size) (hn : n ≤ 1000) :
    Calls Try.prog 59 #[.slice (some ⟨g, 0, none⟩) n cap] w fun e w' => e = .returned (.tuple #[]) ∧ ∃ ys : List Int, ys.Pairwise (· ≤ ·) ∧ ys.Perm xs ∧ w'.ownsRow B 3 1 (.slice (some ⟨g, 0, none⟩) n cap) n (ys.map (Value.int .i64)) ∧ Below B w w' := by
  obtain ⟨g', cap', hv, hg, hlt, h1, h2, hl, hH⟩ := holds_of_ownsRow hown (by simp)
  simp only [Value.slice.injEq, Option.some.injEq, Addr.mk.injEq] at hv
  obtain ⟨⟨rfl, _, _⟩, _, rfl⟩ := hv
  have h := AnyG.slices_Sort_int (P := Try.prog) Try.sortInt g 0 cap xs w hH hlt (by omega)
  rw [hl] at h
  refine Calls.mono h ?_
  rintro e w' ⟨rfl, q, os, rfl⟩
  have hlen : (xs.mergeSort fun x y => decide (x ≤ y)).length = n := by rw [List.length_mergeSort]; exact hl
  refine ⟨rfl, xs.mergeSort fun x y => decide (x ≤ y), ?_, List.mergeSort_perm _ _, ?_, ?_⟩
  · have := List.pairwise_mergeSort (le := fun x y : Int => decide (x ≤ y)) (by intro a b c; simp; omega) (by intro a b; simp; omega) xs
    simpa using this
  · have := ownsRow_putRow (q := q) hown hlen (Nat.le_refl n)
    rw [List.take_of_length_le (by omega)] at this
    exact own_grow this os
  · exact below_grow (below_putRow (Below.refl _ _) hg) (by show B ≤ (putRow _ _ _ _ _).heap.size; simp [putRow, mapBlock, Sort.ahead]; exact hB) os


set_option maxRecDepth 100000 in
set_option maxHeartbeats 1000000 in
theorem equal_int {w : World} {sa sb : Option Addr} {n m ca cb : Nat} {xs ys : List Int} (ha : Ints w (.slice sa n ca) xs) (hb : Ints w (.slice sb m cb) ys) (hl : n ≤ 100000) (hm : m ≤ 100000) :
    Calls Try.prog 28 #[.slice sa n ca, .slice sb m cb] w fun e w' => e = .returned (.bool (decide (xs = ys))) ∧ Below w.heap.size w w' := by
  have HA := Lib.hid ha
  have HB := Lib.hid hb
  have hx : xs.length = n := by have := ha.len; simpa using this
  have hy : ys.length = m := by have := hb.len; simpa using this
  have HX := Lib.hid hx
  have HY := Lib.hid hy
  clear ha hb hx hy
  by_cases hnm : n = m
  · subst hnm
    go_enter Try.func28, Try.ntmps28
    go_wp2_with fail
    go_loopw [5, 13] (fun _ kv wr => ∃ k : Nat, k ≤ n ∧ kv = .int .i64 k ∧ Hid (xs.take k = ys.take k ∧ Below w.heap.size w wr)) (fun _ kv _ => n - (intOf kv).toNat)
    case atStart => exact ⟨0, by omega, rfl, rfl, Below.refl _ _⟩
    case round =>
      obtain ⟨k, hk, rfl, hR⟩ := hrel
      have HR : Hid (xs.take k = ys.take k ∧ Below w.heap.size w wr) := hR
      clear hR
      by_cases hkn : k < n
      · obtain ⟨x, hx⟩ : ∃ x, xs[k]? = some x := ⟨xs[k]'(by rw [HX.out]; exact hkn), List.getElem?_eq_getElem _⟩
        obtain ⟨y, hy⟩ : ∃ y, ys[k]? = some y := ⟨ys[k]'(by rw [HY.out]; exact hkn), List.getElem?_eq_getElem _⟩
        obtain ⟨b1, o1, rfl, h1⟩ := Ints.at HA.out hx
        obtain ⟨b2, o2, rfl, h2⟩ := Ints.at HB.out hy
        have c1 : wr.cell? ⟨b1, o1 + k, none⟩ = some (.int .i64 x) := (HR.out.2.cell (cell_lt' h1)).trans h1
        have c2 : wr.cell? ⟨b2, o2 + k, none⟩ = some (.int .i64 y) := (HR.out.2.cell (cell_lt' h2)).trans h2
        have HXX := Lib.hid hx
        have HYY := Lib.hid hy
        clear h1 h2 hx hy
        by_cases hxy : x = y
        · subst hxy
          go_wp2_with fail
          go_quiet (fail)
          go_wp2_with fail
          go_roundw
          case rel =>
            refine ⟨k + 1, by omega, by go_num, ?_, below_drewN HR.out.2 _⟩
            rw [List.take_add_one, List.take_add_one, HXX.out, HYY.out, HR.out.1]
          case measure => simp [intOf]; omega
        · have hne : (x != y) = true := by simp [hxy]
          go_wp2_with fail
          go_quiet (fail)
          go_wp2_with fail
          go_ret
          refine ⟨retB ?_, below_drewN HR.out.2 _⟩
          symm
          rw [decide_eq_false_iff_not]
          rintro rfl
          rw [HXX.out] at HYY
          have := HYY.out
          simp at this
          exact hxy this
      · have hkx : k = n := by omega
        have HK := Lib.hid hkx
        clear hkx
        go_wp2_with fail
        go_ret
        refine ⟨retB ?_, HR.out.2⟩
        have h1 := HR.out.1
        rw [HK.out, List.take_of_length_le (by have := HX.out; omega), List.take_of_length_le (by have := HY.out; omega)] at h1
        simp [h1]
  · have h1 : ((n : Int) != (m : Int)) = true := by simp; omega
    go_enter Try.func28, Try.ntmps28
    go_wp2_with fail
    go_ret
    refine ⟨retB ?_, Below.refl _ _⟩
    symm
    rw [decide_eq_false_iff_not]
    rintro rfl
    exact hnm (HX.out.symm.trans HY.out)

set_option maxRecDepth 100000 in
set_option maxHeartbeats 1000000 in
theorem sorted_ints {w : World} {so : Option Addr} {n cp : Nat} {xs : List Int} (h : Ints w (.slice so n cp) xs) (h0 : 0 < n) (hn : n ≤ 100) :
    Calls Try.prog 41 #[.slice so n cp] w fun e w' => ∃ v, e = .returned v ∧ ∃ ys : List Int, ys.Pairwise (· ≤ ·) ∧ ys.Perm xs ∧ w'.ownsRow w.heap.size 3 1 v n (ys.map (Value.int .i64)) ∧ Below w.heap.size w w' := by
  obtain ⟨b, o, rfl, hc⟩ := h.cells h0
  have hlen : (xs.map (Value.int .i64)).length = n := h.len
  have HH : Hid ((∀ j u, (xs.map (Value.int .i64))[j]? = some u → w.cell? ⟨b, o + j, none⟩ = some u) ∧ (xs.map (Value.int .i64)).length = n * 1 ∧ (∀ u ∈ xs.map (Value.int .i64), u.oneCell' = true)) :=
    ⟨hc, by omega, fun u hu => by obtain ⟨x, _, rfl⟩ := List.mem_map.1 hu; rfl⟩
  clear h hc hlen
  go_enter Try.func41, Try.ntmps41
  go_wp2_with fail
  refine (clone_int HH.out.2.1 (by omega) HH.out.1 HH.out.2.2).mono ?_
  rintro e w1 ⟨v1, rfl, hown, hb⟩
  obtain ⟨g, c1, rfl⟩ := own_some hown h0
  have H1 : Hid (w1.ownsRow w.heap.size 3 1 (.slice (some ⟨g, 0, none⟩) n c1) n (xs.map (Value.int .i64)) ∧ Below w.heap.size w w1) := ⟨hown, hb⟩
  clear hown hb
  go_wp2_with fail
  refine (sort_int H1.out.1 H1.out.2.size (by omega)).mono ?_
  rintro e w2 ⟨rfl, ys, h1, h2, h3, h4⟩
  have H2 : Hid (ys.Pairwise (· ≤ ·) ∧ ys.Perm xs ∧ w2.ownsRow w.heap.size 3 1 (.slice (some ⟨g, 0, none⟩) n c1) n (ys.map (Value.int .i64)) ∧ Below w.heap.size w w2) := ⟨h1, h2, h3, H1.out.2.trans h4⟩
  clear h1 h2 h3 h4
  go_wp2_with fail
  go_ret
  exact ⟨_, rfl, ys, H2.out⟩

def itemsOf (ys : List Int) : List Item := ys.mapIdx fun i x => (x, (i : Int))
theorem itemsOf_len (ys : List Int) : (itemsOf ys).length = ys.length := by simp [itemsOf]
theorem itemsOf_gt {ys : List Int} {i : Nat} {x : Int} (h : ys[i]? = some x) : gt_ (itemsOf ys) i = (x, (i : Int)) := gt_at (by simp [itemsOf, List.getElem?_mapIdx, h])
theorem itemsOf_up {ys : List Int} (h : ys.Pairwise (· ≤ ·)) : Up (itemsOf ys) := by
  rw [Up, List.pairwise_iff_getElem]
  intro i j hi hj hij
  simp only [itemsOf, List.getElem_mapIdx]
  exact List.pairwise_iff_getElem.1 h i j _ _ hij
set_option maxRecDepth 1000000 in
set_option maxHeartbeats 4000000 in
theorem dmItems_any {w : World} {so : Option Addr} {n cp : Nat} {xs : List Int} (h : I16s w (.slice so n cp) xs) (h0 : 0 < n) (hn : n ≤ 30) (hb : ∀ x ∈ xs, -32768 ≤ x ∧ x ≤ 32767) :
    Calls Try.prog 26 #[.slice so n cp, .int .i64 0, .int .i64 0] w fun e w' => ∃ v, e = .returned v ∧ ∃ L, w'.ownsRow w.heap.size 60 2 v n (L.map rec2).flatten ∧ Up L ∧ L.length = n ∧ Below w.heap.size w w' := by
  obtain ⟨i0, hi, hz0, hz1, hz2⟩ := info_at infoG
  have HI : Hid (Try.prog.info? 60 = some i0 ∧ i0.zero = some (.agg #[.int .i64 0, .int .i64 0]) ∧ i0.size = 2 ∧ i0.bytes = 16) := ⟨hi, hz0, hz1, hz2⟩
  have hlen : xs.length = n := by have := h.len; rwa [List.length_map] at this
  have H0 : Hid (I16s w (.slice so n cp) xs ∧ xs.length = n ∧ (∀ x ∈ xs, -32768 ≤ x ∧ x ≤ 32767)) := ⟨h, hlen, hb⟩
  clear hi hz0 hz1 hz2 h hlen hb
  go_enter Try.func26, Try.ntmps26
  go_wp2_with fail
  refine (ints_any H0.out.1 (by have := H0.out.2.1; omega) H0.out.2.2).mono ?_
  rintro e w1 ⟨v1, rfl, hown, hb⟩
  rw [H0.out.2.1] at hown
  obtain ⟨s1, c1, rfl⟩ := own_shape hown
  have H1 : Hid (Ints w1 (.slice s1 n c1) xs ∧ Below w.heap.size w w1) := ⟨Vals.of_own hown, hb⟩
  clear hown hb
  go_wp2_with fail
  refine (sorted_ints H1.out.1 h0 (by omega)).mono ?_
  rintro e w2 ⟨v2, rfl, ys, hs, hp, hown, hb⟩
  obtain ⟨g, c2, rfl⟩ := own_some hown h0
  have hyl : ys.length = n := by rw [hp.length_eq, H0.out.2.1]
  have H2 : Hid (Ints w2 (.slice (some ⟨g, 0, none⟩) n c2) ys ∧ ys.Pairwise (· ≤ ·) ∧ ys.length = n ∧ Below w.heap.size w w2 ∧ ∀ x ∈ ys, -32768 ≤ x ∧ x ≤ 32767) := ⟨Vals.of_own hown, hs, hyl, H1.out.2.trans (hb.mono H1.out.2.size), fun x hx => H0.out.2.2 x (hp.mem_iff.1 hx)⟩
  have s2 := H2.out.2.2.2.1.size
  clear hown hb hs hp hyl
  go_wp2_with fail
  go_loopw [7, 9, 14] (fun sv _ iv wr => ∃ (i : Nat), iv = .int .i64 (i : Nat) ∧ i ≤ n ∧ Hid (wr.ownsRow w2.heap.size 60 2 sv i (((itemsOf ys).take i).map rec2).flatten ∧ Below w2.heap.size w2 wr)) (fun _ _ iv _ => n - (intOf iv).toNat)
  case atStart => exact ⟨0, rfl, by omega, World.ownsRow_nil _ _ _ _, Below.refl _ _⟩
  case round =>
    obtain ⟨i, rfl, hin, hR⟩ := hrel
    have HR : Hid (wr.ownsRow w2.heap.size 60 2 u7 i (((itemsOf ys).take i).map rec2).flatten ∧ Below w2.heap.size w2 wr) := hR
    clear hR
    obtain ⟨s5, d5, rfl⟩ := own_shape HR.out.1
    by_cases hlt : i < n
    · have z1 : (i : Int) < (n : Int) := by omega
      have z0 : (0 : Int) ≤ (i : Int) := by omega
      obtain ⟨x, hx⟩ : ∃ x, ys[i]? = some x := ⟨_, List.getElem?_eq_getElem (by have := H2.out.2.2.1; omega)⟩
      obtain ⟨hx1, hx2⟩ := H2.out.2.2.2.2 x (List.mem_of_getElem? hx)
      obtain ⟨b, o, hbo, d0⟩ := Ints.at H2.out.1 hx
      simp only [Option.some.injEq, Addr.mk.injEq] at hbo
      obtain ⟨rfl, rfl, _⟩ := hbo
      rw [Nat.zero_add] at d0
      have c0 : wr.cell? ⟨g, i, none⟩ = some (.int .i64 x) := (HR.out.2.cell (cell_lt' d0)).trans d0
      have hw1 : IntKind.i64.wrap x = x := by rw [IntKind.wrap_i64]; omega
      have hw2 : IntKind.i64.wrap (i : Int) = (i : Int) := by rw [IntKind.wrap_i64]; omega
      have HX := Lib.hid hx
      clear d0 hx
      go_wp2_with (at_builtin; go_must (refine wpList_append_own_at _ rfl (.tmp 18) (.tmp 27) 56 rfl w2.heap.size 60 i0 (.agg #[.int .i64 0, .int .i64 0]) 2 16 Try.underlying56 HI.out.1 HI.out.2.1 HI.out.2.2.1 HI.out.2.2.2 rfl (by decide) (.slice s5 i d5) i _ rfl (HR.out.1.alloc _) ⟨wr.heap.size, 0, none⟩ 1 1 [.int .i64 x, .int .i64 (i : Nat)] rfl rfl ?c1 ?c2 ?c3 ?c4 ?c5 ?_))
      case c1 => exact two_cells
      case c2 => intro u hu; simp at hu; rcases hu with rfl | rfl <;> rfl
      case c3 => unfold maxLen; omega
      case c4 => omega
      case c5 => have := HR.out.2.size; simp; omega
      intro v' w6 hown' hgrow _ _
      obtain ⟨s6, c6, rfl⟩ := own_shape hown'
      have HQ : Hid (w6.ownsRow w2.heap.size 60 2 (.slice s6 (i + 1) c6) (i + 1) (((itemsOf ys).take (i + 1)).map rec2).flatten ∧ Below w2.heap.size w2 w6) := by
        refine ⟨?_, HR.out.2.trans (own_grown HR.out.1 hgrow HR.out.2.size)⟩
        rw [take_snoc2 (by rw [itemsOf_len, H2.out.2.2.1]; exact hlt), itemsOf_gt HX.out]
        rw [← List.map_take] at hown'
        exact hown'
      clear hown' hgrow
      go_wp2_with fail
      go_roundw
      case rel => exact ⟨i + 1, by go_num, by omega, HQ.out⟩
      case measure => simp [intOf]; omega
    · have z1 : ¬ (i : Int) < (n : Int) := by omega
      obtain rfl : i = n := by omega
      go_wp2_with fail
      go_ret
      refine ⟨_, rfl, itemsOf ys, ?_, itemsOf_up H2.out.2.1, by rw [itemsOf_len, H2.out.2.2.1], H2.out.2.2.2.1.trans (HR.out.2.mono s2)⟩
      have h := HR.out.1
      rw [List.take_of_length_le (by rw [itemsOf_len, H2.out.2.2.1]; exact Nat.le_refl _)] at h
      exact own_low' h s2

theorem up_two {a b : Item} {L : List Item} (h : L.Perm [a, b]) (u : Up L) (hab : b.1 < a.1) : L.map (·.1) = [b.1, a.1] := by
  have hl := h.length_eq
  match L, hl, h, u with
  | [x, y], _, h, u =>
    have hx := h.mem_iff.1 (show x ∈ [x, y] by simp)
    have hy := h.mem_iff.1 (show y ∈ [x, y] by simp)
    have ha := h.mem_iff.2 (show a ∈ [a, b] by simp)
    have hb := h.mem_iff.2 (show b ∈ [a, b] by simp)
    have u1 : x.1 ≤ y.1 := by simpa using u
    simp at hx hy ha hb ⊢
    rcases hx with rfl | rfl
    · rcases hy with rfl | rfl
      · rcases hb with rfl | rfl <;> omega
      · omega
    · rcases hy with rfl | rfl
      · simp
      · rcases ha with rfl | rfl <;> omega
set_option maxRecDepth 1000000 in
set_option maxHeartbeats 4000000 in
theorem awake_any (w : World) :
    Calls Try.prog 27 #[] w fun e w' => e = .returned (.bool true) ∧ Below w.heap.size w w' := by
  obtain ⟨W, hW⟩ : ∃ W, W = (w.alloc (.cells #[.int .i64 4, .int .i64 0] 60)).alloc (.cells #[.int .i64 2, .int .i64 1] 60) := ⟨_, rfl⟩
  have K0 : Pairs W (.slice (some ⟨w.heap.size, 0, none⟩) 1 1) [(4, 0)] := by rw [hW]; exact Pairs.blk (ps := [(4, 0)]) ((Blk.new w _ _).alloc _)
  have K1 : Pairs W (.slice (some ⟨w.heap.size + 1, 0, none⟩) 1 1) [(2, 1)] := by
    rw [hW]; have h := Blk.new (w.alloc (.cells #[.int .i64 4, .int .i64 0] 60)) #[.int .i64 2, .int .i64 1] 60; rw [World.size_alloc] at h; exact Pairs.blk (ps := [(2, 1)]) h
  have KB : Below w.heap.size w W := by rw [hW]; exact ((Below.refl _ _).alloc (Nat.le_refl _) _).alloc (by simp) _
  have HM := Lib.hid (mgMerge_any K0 K1 (by decide) (by decide) (by simp) (by simp))
  have HW := Lib.hid (And.intro hW KB)
  clear K0 K1 KB hW
  go_enter Try.func27, Try.ntmps27
  go_wp2_with fail
  rw [← HW.out.1]
  refine HM.out.mono ?_
  rintro e w1 ⟨v1, rfl, L, hown, hp, hu, hb⟩
  obtain ⟨s1, c1, rfl⟩ := own_shape hown
  have hk := up_two (a := (4, 0)) (b := (2, 1)) hp hu (by decide)
  have H1 : Hid (Pairs w1 (.slice s1 2 c1) L ∧ Below w.heap.size w w1 ∧ L.map (·.1) = [2, 4]) := ⟨Pairs.of_own hown, HW.out.2.trans (hb.mono HW.out.2.size), hk⟩
  clear hown hp hu hb hk
  go_wp2_with fail
  refine (keys_any H1.out.1 (by decide)).mono ?_
  rintro e w2 ⟨v2, rfl, hown, hb⟩
  obtain ⟨s2, c2, rfl⟩ := own_shape hown
  have hv : L.map (fun x => Value.int .i64 x.1) = [2, 4].map (Value.int .i64) := by
    rw [← H1.out.2.2, List.map_map]; rfl
  have H2 : Hid (Ints w2 (.slice s2 2 c2) [2, 4] ∧ Below w.heap.size w w2) := ⟨by have h := Vals.of_own hown; rw [hv] at h; exact h, H1.out.2.1.trans (hb.mono H1.out.2.1.size)⟩
  clear hown hb hv
  go_wp2_with fail
  refine (equal_int (xs := [2, 4]) (ys := [2, 4]) (H2.out.1.same ((Below.refl _ _).alloc (Nat.le_refl _) _)) (vals_blk (vs := [2, 4].map (Value.int .i64)) (Blk.new w2 _ _)) (by decide) (by decide)).mono ?_
  rintro e w3 ⟨rfl, hb⟩
  have H3 : Hid (Below w.heap.size w w3) := (H2.out.2.alloc H2.out.2.size _).trans (hb.mono (by have := H2.out.2.size; simp; omega))
  clear hb
  rw [decide_eq_true (rfl : ([2, 4] : List Int) = [2, 4])]
  go_wp2_with fail
  go_ret
  exact ⟨rfl, H3.out⟩
end Go.Proofs.Ytkjlijgeoidmiaa.MG
