/- Lists in memory; Clone, Equal, dxFew. -/
import Derived.Test.YtalphojbkeleiaaHD
import Derived.Lib.SliceRun
namespace Go.Proofs.Ytalphojbkeleiaa
open Go.RowKit

theorem infoT : (Try.prog.info? 30).map (fun i => (i.zero, i.size, i.bytes)) = some (some (.agg #[.int .i64 0, .int .i64 0, .int .i64 0, .slice none 0 0]), 4, 48) := by kernel_rfl
abbrev Ints (w : World) (sl : Value) (xs : List Int) : Prop := Vals w sl (xs.map (Value.int .i64))

theorem own_block' {w : World} {base : Nat} {e : TypeId} {size : Nat} {v : Value} {n : Nat} {xs : List Value} (h : w.ownsRow base e size v n xs) {k : Nat} (hk' : v.ownBlock = some k) : base ≤ k := by
  obtain ⟨_, h | ⟨g, cap, cur, hv, hge, hh, _⟩⟩ := h
  · rw [h.1] at hk'; simp [Value.ownBlock] at hk'
  · rw [hv] at hk'; simp [Value.ownBlock] at hk'; subst hk'; exact hge

theorem Ints.at {w : World} {so : Option Addr} {n cp : Nat} {xs : List Int} (h : Ints w (.slice so n cp) xs) {k : Nat} {x : Int} (hk : xs[k]? = some x) : ∃ b o, so = some ⟨b, o, none⟩ ∧ w.cell? ⟨b, o + k, none⟩ = some (.int .i64 x) := by
  have hkl := (List.getElem?_eq_some_iff.1 hk).1
  rcases h with ⟨_, h2⟩ | ⟨b, o, c, h1, h2, h3⟩
  · simp at h2; subst h2; simp at hkl
  · simp only [Value.slice.injEq] at h1
    obtain ⟨rfl, _, _⟩ := h1
    have h4 := h3 k (by simpa using hkl)
    rw [List.getElem?_map, hk] at h4
    exact ⟨b, o, rfl, h4⟩
theorem Vals.len {w : World} {so : Option Addr} {n cp : Nat} {vs : List Value} (h : Vals w (.slice so n cp) vs) : vs.length = n := by
  rcases h with ⟨h1, h2⟩ | ⟨b, o, c, h1, _⟩
  · simp at h1; simp [h2, h1.2.1]
  · simp only [Value.slice.injEq] at h1; exact h1.2.1.symm
theorem Vals.cells {w : World} {so : Option Addr} {n cp : Nat} {vs : List Value} (h : Vals w (.slice so n cp) vs) (hn : 0 < n) : ∃ b o, so = some ⟨b, o, none⟩ ∧ ∀ j u, vs[j]? = some u → w.cell? ⟨b, o + j, none⟩ = some u := by
  rcases h with ⟨h1, h2⟩ | ⟨b, o, c, h1, h2, h3⟩
  · simp at h1; omega
  · simp only [Value.slice.injEq] at h1
    refine ⟨b, o, h1.1, fun j u hj => ?_⟩
    have := (List.getElem?_eq_some_iff.1 hj).1
    rw [h3 j this, hj]
theorem Recs.cells {w : World} {k : Nat} {so : Option Addr} {n cp : Nat} {rs : List (List Value)} (hk : 0 < k) (hr : ∀ r ∈ rs, r.length = k) (h : Recs w k (.slice so n cp) rs) (hn : 0 < n) : ∃ b o, so = some ⟨b, o, none⟩ ∧ ∀ j u, rs.flatten[j]? = some u → w.cell? ⟨b, o + j, none⟩ = some u := by
  rcases h with ⟨h1, h2⟩ | ⟨b, o, c, h1, h2, h3⟩
  · simp at h1; omega
  · simp only [Value.slice.injEq] at h1
    refine ⟨b, o, h1.1, fun j u hj => ?_⟩
    have hjl := (List.getElem?_eq_some_iff.1 hj).1
    rw [flatten_len hr] at hjl
    have hi : j / k < rs.length := Nat.div_lt_of_lt_mul (by rw [Nat.mul_comm]; exact hjl)
    have hm : j % k < k := Nat.mod_lt _ hk
    have g1 : rs[j / k]? = some rs[j / k] := List.getElem?_eq_getElem hi
    have hrl := hr _ (List.getElem_mem hi)
    have g2 : (rs[j / k])[j % k]? = some ((rs[j / k])[j % k]'(by omega)) := List.getElem?_eq_getElem (by omega)
    have g3 := flatten_get hr g1 g2
    have e : j / k * k + j % k = j := by rw [Nat.mul_comm]; exact Nat.div_add_mod j k
    rw [e, hj] at g3
    have g4 := h3 _ _ g1 _ _ g2
    rw [show o + j / k * k + j % k = o + j by omega] at g4
    rw [g4, ← g3]
theorem below_drewN' {B : Nat} {w w' : World} (h : Below B w w') (n : Nat) : Below B w (w'.drewN n) := ⟨h.os, h.tape, h.output, h.size, h.block⟩
theorem vals_blk {w : World} {b : Nat} {vs : List Value} {T : TypeId} (h : Blk w b vs.toArray T) : Vals w (.slice (some ⟨b, 0, none⟩) vs.length vs.length) vs :=
  Or.inr ⟨b, 0, vs.length, rfl, Nat.le_refl _, fun i hi => by
    rw [Nat.zero_add, List.getElem?_eq_getElem hi]
    exact h.cell (by simp [hi])⟩

namespace FH
set_option maxRecDepth 100000 in
set_option maxHeartbeats 1000000 in
theorem clone_steps {w : World} {b o n cp : Nat} {vs : List Value} (hl : vs.length = n * 4) (hn : n ≤ 100000) (hc : ∀ j u, vs[j]? = some u → w.cell? ⟨b, o + j, none⟩ = some u) (h1 : ∀ u ∈ vs, u.oneCell' = true) :
    Calls Try.prog 10 #[.slice (some ⟨b, o, none⟩) n cp] w fun e w' => ∃ v, e = .returned v ∧ w'.ownsRow w.heap.size 30 4 v n vs ∧ Below w.heap.size w w' := by
  obtain ⟨i0, hi, hz0, hz1, hz2⟩ := info_at infoT
  have HI : Hid (Try.prog.info? 30 = some i0 ∧ i0.zero = some (.agg #[.int .i64 0, .int .i64 0, .int .i64 0, .slice none 0 0]) ∧ i0.size = 4 ∧ i0.bytes = 48) := ⟨hi, hz0, hz1, hz2⟩
  clear hi hz0 hz1 hz2
  have HL := Lib.hid hl
  have HC : Hid (∀ j u, vs[j]? = some u → (w.alloc (.cells #[] 30)).cell? ((⟨b, o, none⟩ : Addr).add j) = some u) := Lib.hid fun j u hj => by
    have h2 := hc j u hj
    rw [addr_add]
    exact (((Below.refl w.heap.size w).alloc (Nat.le_refl _) _).cell (cell_lt' h2)).trans h2
  have HO := Lib.hid h1
  have hown : Hid ((w.alloc (.cells #[] 30)).ownsRow w.heap.size 30 4 (.slice (some ⟨w.heap.size, 0, none⟩) 0 0) 0 []) := Lib.hid ⟨by simp, Or.inr ⟨w.heap.size, 0, #[], rfl, Nat.le_refl _, Blk.new w #[] _, by omega, by simp [maxLen], by simp, by simp⟩⟩
  have hnl := fun w : World => Lib.run_eql_slice_nil (P := Try.prog) w 27 30 (some ⟨b, o, none⟩) n cp 0 0 Try.underlying27
  clear hl hc h1
  go_enter Try.func10, Try.ntmps10
  go_wp2_with (at_builtin; go_must (refine wpList_append_own_at _ rfl _ _ 27 rfl w.heap.size 30 i0 (.agg #[.int .i64 0, .int .i64 0, .int .i64 0, .slice none 0 0]) 4 48 Try.underlying27 HI.out.1 HI.out.2.1 HI.out.2.2.1 HI.out.2.2.2 rfl (by decide) _ _ _ rfl hown.out ⟨b, o, none⟩ n cp vs rfl HL.out HC.out HO.out ?c3 ?c4 ?c5 ?_))
  case c3 => unfold maxLen; omega
  case c4 => omega
  case c5 => simp
  intro v' w3 hown' hgrow _ _
  obtain ⟨so3, cp3, rfl⟩ := own_shape hown'
  have HQ : Hid (w3.ownsRow w.heap.size 30 4 (.slice so3 n cp3) n vs ∧ Below w.heap.size w w3) := by
    try simp only [Nat.zero_add, List.nil_append] at hown'
    refine ⟨hown', ((Below.refl _ _).alloc (Nat.le_refl _) _).trans ((Below.refl _ _).grown hgrow (by simp) ?_)⟩
    intro k hk
    have := (own_block' hown.out hk)
    omega
  clear hown' hgrow
  go_wp2_with fail
  go_ret
  exact ⟨_, rfl, HQ.out.1, HQ.out.2⟩

set_option maxRecDepth 100000 in
set_option maxHeartbeats 1000000 in
theorem equal_any {w : World} {sa sb : Option Addr} {n m ca cb : Nat} {xs ys : List Int} (ha : Ints w (.slice sa n ca) xs) (hb : Ints w (.slice sb m cb) ys) (hl : n ≤ 100000) (hm : m ≤ 100000) :
    Calls Try.prog 9 #[.slice sa n ca, .slice sb m cb] w fun e w' => e = .returned (.bool (decide (xs = ys))) ∧ Below w.heap.size w w' := by
  have HA := Lib.hid ha
  have HB := Lib.hid hb
  have hx : xs.length = n := by have := ha.len; simpa using this
  have hy : ys.length = m := by have := hb.len; simpa using this
  have HX := Lib.hid hx
  have HY := Lib.hid hy
  clear ha hb hx hy
  by_cases hnm : n = m
  · subst hnm
    go_enter Try.func9, Try.ntmps9
    go_wp2_with fail
    go_loopw [5, 13] (fun _ kv wr => ∃ k : Nat, k ≤ n ∧ kv = .int .i64 k ∧ Hid (xs.take k = ys.take k ∧ Below w.heap.size w wr)) (fun _ kv _ => n - (intOf kv).toNat)
    case atStart => exact ⟨0, by omega, rfl, rfl, Below.refl _ _⟩
    case round =>
      obtain ⟨k, hk, rfl, hR⟩ := hrel
      have HR : Hid (xs.take k = ys.take k ∧ Below w.heap.size w wr) := hR
      clear hR
      by_cases hkn : k < n
      · obtain ⟨x, hx⟩ : ∃ x, xs[k]? = some x := ⟨xs[k]'(by rw [HX.out]; exact hkn), List.getElem?_eq_getElem _⟩
        obtain ⟨y, hy⟩ : ∃ y, ys[k]? = some y := ⟨ys[k]'(by rw [HY.out]; exact hkn), List.getElem?_eq_getElem _⟩
        obtain ⟨b1, o1, rfl, h1⟩ := Ints.at HA.out hx
        obtain ⟨b2, o2, rfl, h2⟩ := Ints.at HB.out hy
        have c1 : wr.cell? ⟨b1, o1 + k, none⟩ = some (.int .i64 x) := (HR.out.2.cell (cell_lt' h1)).trans h1
        have c2 : wr.cell? ⟨b2, o2 + k, none⟩ = some (.int .i64 y) := (HR.out.2.cell (cell_lt' h2)).trans h2
        have HXX := Lib.hid hx
        have HYY := Lib.hid hy
        clear h1 h2 hx hy
        by_cases hxy : x = y
        · subst hxy
          go_wp2_with fail
          go_quiet (fail)
          go_wp2_with fail
          go_roundw
          case rel =>
            refine ⟨k + 1, by omega, by go_num, ?_, below_drewN' HR.out.2 _⟩
            rw [List.take_add_one, List.take_add_one, HXX.out, HYY.out, HR.out.1]
          case measure => simp [intOf]; omega
        · have hne : (x != y) = true := by simp [hxy]
          go_wp2_with fail
          go_quiet (fail)
          go_wp2_with fail
          go_ret
          refine ⟨retB ?_, below_drewN' HR.out.2 _⟩
          symm
          rw [decide_eq_false_iff_not]
          rintro rfl
          rw [HXX.out] at HYY
          have := HYY.out
          simp at this
          exact hxy this
      · have hkx : k = n := by omega
        have HK := Lib.hid hkx
        clear hkx
        go_wp2_with fail
        go_ret
        refine ⟨retB ?_, HR.out.2⟩
        have h1 := HR.out.1
        rw [HK.out, List.take_of_length_le (by have := HX.out; omega), List.take_of_length_le (by have := HY.out; omega)] at h1
        simp [h1]
  · have h1 : ((n : Int) != (m : Int)) = true := by simp; omega
    go_enter Try.func9, Try.ntmps9
    go_wp2_with fail
    go_ret
    refine ⟨retB ?_, Below.refl _ _⟩
    symm
    rw [decide_eq_false_iff_not]
    rintro rfl
    exact hnm (HX.out.symm.trans HY.out)

set_option maxRecDepth 100000 in
set_option maxHeartbeats 2000000 in
theorem few_any (w : World) (so : Option Addr) (n cp : Nat) :
    Calls Try.prog 6 #[.slice so n cp] w fun e w' => e = .returned (.bool (decide (0 < n) && decide (n ≤ 30))) ∧ w = w' := by
  by_cases h : 0 < n
  · have h1 : decide (0 < n) = true := decide_eq_true h
    by_cases h2 : n ≤ 30
    · have h3 : decide (n ≤ 30) = true := decide_eq_true h2
      have h4 : decide ((n : Int) ≤ 30) = true := decide_eq_true (by omega)
      rw [h1, h3]
      go_enter Try.func6, Try.ntmps6
      go_wp2_with fail
      go_ret
      exact ⟨rfl, rfl⟩
    · have h3 : decide (n ≤ 30) = false := decide_eq_false h2
      have h4 : decide ((n : Int) ≤ 30) = false := decide_eq_false (by omega)
      rw [h1, h3]
      go_enter Try.func6, Try.ntmps6
      go_wp2_with fail
      go_ret
      exact ⟨rfl, rfl⟩
  · have h0 : n = 0 := by omega
    subst h0
    go_enter Try.func6, Try.ntmps6
    go_wp2_with fail
    go_ret
    exact ⟨rfl, rfl⟩
end FH
end Go.Proofs.Ytalphojbkeleiaa
