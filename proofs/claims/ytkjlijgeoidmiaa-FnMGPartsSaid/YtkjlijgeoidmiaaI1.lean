/- Small parts of laws over lists of numbers: dxFew, diLongs, slices.Equal at int64. -/
import Derived.Test.YtkjlijgeoidmiaaListKit
import Derived.Test.YtkjlijgeoidmiaaStepKit
import Derived.Test.YtkjlijgeoidmiaaArgKit
import Derived.Lib.SliceRun
import Derived.Test.YtkjlijgeoidmiaaRows
import Derived.WalkSpells
import Derived.WalkLawsBesides
import Derived.Recover
namespace Go.Proofs.Ytkjlijgeoidmiaa
open Go.RowKit

abbrev Ints (w : World) (sl : Value) (xs : List Int) : Prop := Vals w sl (xs.map (Value.int .i64))
theorem info64 : (Try.prog.info? 2).map (fun i => (i.zero, i.size, i.bytes)) = some (some (.int .i64 0), 1, 8) := by kernel_rfl
abbrev I16s (w : World) (sl : Value) (xs : List Int) : Prop := Vals w sl (xs.map (Value.int .i16))

theorem below_drewN {B : Nat} {w w' : World} (h : Below B w w') (n : Nat) : Below B w (w'.drewN n) := ⟨h.os, h.tape, h.output, h.size, h.block⟩

theorem few_any (w : World) (so : Option Addr) (n cp : Nat) :
    Calls Try.prog 9 #[.slice so n cp] w fun e w' => e = .returned (.bool (decide (0 < n) && decide (n ≤ 30))) ∧ w = w' := by
  by_cases h : 0 < n
  · have h1 : decide (0 < n) = true := decide_eq_true h
    by_cases h2 : n ≤ 30
    · have h3 : decide (n ≤ 30) = true := decide_eq_true h2
      have h4 : decide ((n : Int) ≤ 30) = true := decide_eq_true (by omega)
      rw [h1, h3]
      go_enter Try.func9, Try.ntmps9
      go_wp2_with fail
      go_ret
      exact ⟨rfl, rfl⟩
    · have h3 : decide (n ≤ 30) = false := decide_eq_false h2
      have h4 : decide ((n : Int) ≤ 30) = false := decide_eq_false (by omega)
      rw [h1, h3]
      go_enter Try.func9, Try.ntmps9
      go_wp2_with fail
      go_ret
      exact ⟨rfl, rfl⟩
  · have h0 : n = 0 := by omega
    subst h0
    go_enter Try.func9, Try.ntmps9
    go_wp2_with fail
    go_ret
    exact ⟨rfl, rfl⟩

set_option maxRecDepth 100000 in
set_option maxHeartbeats 1000000 in
theorem longs_any {w : World} {sl : Value} {xs : List Int} (h : I16s w sl xs) (hl : xs.length ≤ 1000) (hb : ∀ x ∈ xs, -32768 ≤ x ∧ x ≤ 32767) :
    Calls Try.prog 10 #[sl, .int .i64 0] w fun e w' => ∃ v, e = .returned v ∧ w'.ownsRow w.heap.size 2 1 v xs.length (xs.map (Value.int .i64)) ∧ Below w.heap.size w w' := by
  obtain ⟨i0, hi, hz0, hz1, hz2⟩ := info_at info64
  have HI : Hid (Try.prog.info? 2 = some i0 ∧ i0.zero = some (.int .i64 0) ∧ i0.size = 1 ∧ i0.bytes = 8) := ⟨hi, hz0, hz1, hz2⟩
  clear hi hz0 hz1 hz2
  have H := Lib.hid h
  have HBD := Lib.hid hb
  clear hb
  obtain ⟨so, cp, rfl⟩ := h.shape
  clear h
  obtain ⟨n, hn⟩ : ∃ n, n = xs.length := ⟨_, rfl⟩
  have HN := Lib.hid hn
  rw [List.length_map, ← hn]
  have hl2 : n ≤ 1000 := by omega
  clear hn hl
  go_enter Try.func10, Try.ntmps10
  go_wp2_with fail
  go_loopw [5, 7, 10] (fun ov _ kv wr => ∃ k : Nat, k ≤ n ∧ kv = .int .i64 k ∧ Hid (wr.ownsRow w.heap.size 2 1 ov k ((xs.take k).map (Value.int .i64)) ∧ Below w.heap.size w wr)) (fun _ _ kv _ => n - (intOf kv).toNat)
  case atStart => exact ⟨0, by omega, rfl, World.ownsRow_nil _ _ _ _, Below.refl _ _⟩
  case round =>
    obtain ⟨k, hk, rfl, hR⟩ := hrel
    have HR : Hid (wr.ownsRow w.heap.size 2 1 _ k ((xs.take k).map (Value.int .i64)) ∧ Below w.heap.size w wr) := hR
    clear hR
    obtain ⟨so2, cp2, rfl⟩ := own_shape HR.out.1
    by_cases hkn : k < n
    · obtain ⟨x, hx⟩ : ∃ x, xs[k]? = some x := ⟨xs[k]'(by rw [← HN.out]; exact hkn), List.getElem?_eq_getElem _⟩
      have HX := Lib.hid hx
      have hxb := HBD.out x (List.mem_of_getElem? hx)
      have hxl := hxb.1
      have hxh := hxb.2
      clear hxb
      rcases H.out with ⟨_, h2⟩ | ⟨b, o, c, h1, h2, h3⟩
      · simp at h2; rw [HN.out, h2] at hkn; exact absurd hkn (by simp)
      · simp only [Value.slice.injEq] at h1
        obtain ⟨rfl, _, rfl⟩ := h1
        have h4 := h3 k (by rw [List.length_map, ← HN.out]; exact hkn)
        rw [List.getElem?_map, hx] at h4
        have c0 : wr.cell? ⟨b, o + k, none⟩ = some (.int .i16 x) := (HR.out.2.cell (cell_lt' h4)).trans h4
        have hw1 : IntKind.i64.wrap x = x := by rw [IntKind.wrap_i64]; omega
        clear h2 h3 h4 hx
        go_wp2_with (at_builtin; go_must (refine wpList_append_own_at _ rfl _ _ 25 rfl w.heap.size 2 i0 (.int .i64 0) 1 8 Try.underlying25 HI.out.1 HI.out.2.1 HI.out.2.2.1 HI.out.2.2.2 rfl (by decide) _ _ _ rfl (HR.out.1.alloc _) ⟨wr.heap.size, 0, none⟩ 1 1 [.int .i64 x] rfl rfl ?c1 ?c2 ?c3 ?c4 ?c5 ?_))
        case c1 => exact one_cell
        case c2 => intro u hu; simp at hu; subst hu; rfl
        case c3 => unfold maxLen; omega
        case c4 => omega
        case c5 => have := HR.out.2.size; simp; omega
        intro v' w3 hown' hgrow _ hblk
        obtain ⟨so3, cp3, rfl⟩ := own_shape hown'
        have HQ : Hid (w3.ownsRow w.heap.size 2 1 (.slice so3 (k + 1) cp3) (k + 1) ((xs.take (k + 1)).map (Value.int .i64)) ∧ Below w.heap.size w w3) := by
          refine ⟨?_, HR.out.2.trans (own_grown HR.out.1 hgrow HR.out.2.size)⟩
          rw [List.take_add_one, HX.out, List.map_append, List.map_take]
          exact hown'
        clear hown' hgrow hblk c0
        go_wp2_with fail
        go_roundw
        case rel => exact ⟨k + 1, by omega, by go_num, HQ.out⟩
        case measure => simp [intOf]; omega
    · have hkx : k = n := by omega
      have HK := Lib.hid hkx
      clear hkx
      go_wp2_with fail
      go_ret
      refine ⟨_, rfl, ?_, HR.out.2⟩
      have h1 := HR.out.1
      have h2 : xs.take k = xs := by rw [HK.out, HN.out, List.take_length]
      rw [h2] at h1
      have e := HK.out
      clear HK
      subst e
      exact h1

theorem Ints.at {w : World} {so : Option Addr} {n cp : Nat} {xs : List Int} (h : Ints w (.slice so n cp) xs) {k : Nat} {x : Int} (hk : xs[k]? = some x) : ∃ b o, so = some ⟨b, o, none⟩ ∧ w.cell? ⟨b, o + k, none⟩ = some (.int .i64 x) := by
  have hkl := (List.getElem?_eq_some_iff.1 hk).1
  rcases h with ⟨_, h2⟩ | ⟨b, o, c, h1, h2, h3⟩
  · simp at h2; subst h2; simp at hkl
  · simp only [Value.slice.injEq] at h1
    obtain ⟨rfl, _, _⟩ := h1
    have h4 := h3 k (by simpa using hkl)
    rw [List.getElem?_map, hk] at h4
    exact ⟨b, o, rfl, h4⟩
theorem Vals.len {w : World} {so : Option Addr} {n cp : Nat} {vs : List Value} (h : Vals w (.slice so n cp) vs) : vs.length = n := by
  rcases h with ⟨h1, h2⟩ | ⟨b, o, c, h1, _⟩
  · simp at h1; simp [h2, h1.2.1]
  · simp only [Value.slice.injEq] at h1; exact h1.2.1.symm

set_option maxRecDepth 100000 in
set_option maxHeartbeats 1000000 in
theorem equal_any {w : World} {sa sb : Option Addr} {n m ca cb : Nat} {xs ys : List Int} (ha : Ints w (.slice sa n ca) xs) (hb : Ints w (.slice sb m cb) ys) (hl : n ≤ 100000) (hm : m ≤ 100000) :
    Calls Try.prog 15 #[.slice sa n ca, .slice sb m cb] w fun e w' => e = .returned (.bool (decide (xs = ys))) ∧ Below w.heap.size w w' := by
  have HA := Lib.hid ha
  have HB := Lib.hid hb
  have hx : xs.length = n := by have := ha.len; simpa using this
  have hy : ys.length = m := by have := hb.len; simpa using this
  have HX := Lib.hid hx
  have HY := Lib.hid hy
  clear ha hb hx hy
  by_cases hnm : n = m
  · subst hnm
    go_enter Try.func15, Try.ntmps15
    go_wp2_with fail
    go_loopw [5, 13] (fun _ kv wr => ∃ k : Nat, k ≤ n ∧ kv = .int .i64 k ∧ Hid (xs.take k = ys.take k ∧ Below w.heap.size w wr)) (fun _ kv _ => n - (intOf kv).toNat)
    case atStart => exact ⟨0, by omega, rfl, rfl, Below.refl _ _⟩
    case round =>
      obtain ⟨k, hk, rfl, hR⟩ := hrel
      have HR : Hid (xs.take k = ys.take k ∧ Below w.heap.size w wr) := hR
      clear hR
      by_cases hkn : k < n
      · obtain ⟨x, hx⟩ : ∃ x, xs[k]? = some x := ⟨xs[k]'(by rw [HX.out]; exact hkn), List.getElem?_eq_getElem _⟩
        obtain ⟨y, hy⟩ : ∃ y, ys[k]? = some y := ⟨ys[k]'(by rw [HY.out]; exact hkn), List.getElem?_eq_getElem _⟩
        obtain ⟨b1, o1, rfl, h1⟩ := Ints.at HA.out hx
        obtain ⟨b2, o2, rfl, h2⟩ := Ints.at HB.out hy
        have c1 : wr.cell? ⟨b1, o1 + k, none⟩ = some (.int .i64 x) := (HR.out.2.cell (cell_lt' h1)).trans h1
        have c2 : wr.cell? ⟨b2, o2 + k, none⟩ = some (.int .i64 y) := (HR.out.2.cell (cell_lt' h2)).trans h2
        have HXX := Lib.hid hx
        have HYY := Lib.hid hy
        clear h1 h2 hx hy
        by_cases hxy : x = y
        · subst hxy
          go_wp2_with fail
          go_quiet (fail)
          go_wp2_with fail
          go_roundw
          case rel =>
            refine ⟨k + 1, by omega, by go_num, ?_, below_drewN HR.out.2 _⟩
            rw [List.take_add_one, List.take_add_one, HXX.out, HYY.out, HR.out.1]
          case measure => simp [intOf]; omega
        · have hne : (x != y) = true := by simp [hxy]
          go_wp2_with fail
          go_quiet (fail)
          go_wp2_with fail
          go_ret
          refine ⟨retB ?_, below_drewN HR.out.2 _⟩
          symm
          rw [decide_eq_false_iff_not]
          rintro rfl
          rw [HXX.out] at HYY
          have := HYY.out
          simp at this
          exact hxy this
      · have hkx : k = n := by omega
        have HK := Lib.hid hkx
        clear hkx
        go_wp2_with fail
        go_ret
        refine ⟨retB ?_, HR.out.2⟩
        have h1 := HR.out.1
        rw [HK.out, List.take_of_length_le (by have := HX.out; omega), List.take_of_length_le (by have := HY.out; omega)] at h1
        simp [h1]
  · have h1 : ((n : Int) != (m : Int)) = true := by simp; omega
    go_enter Try.func15, Try.ntmps15
    go_wp2_with fail
    go_ret
    refine ⟨retB ?_, Below.refl _ _⟩
    symm
    rw [decide_eq_false_iff_not]
    rintro rfl
    exact hnm (HX.out.symm.trans HY.out)
end Go.Proofs.Ytkjlijgeoidmiaa
