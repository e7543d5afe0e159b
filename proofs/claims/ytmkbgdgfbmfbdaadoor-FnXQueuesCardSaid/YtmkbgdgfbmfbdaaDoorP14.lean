/- Functions over slices: Clone, Equal; dxTakes. -/
import Derived.Test.YtmkbgdgfbmfbdaaDoorP13
import Derived.Lib.SliceRun
namespace Go.Proofs.YtmkbgdgfbmfbdaaDoor
open Go.RowKit
theorem infoJ : (Tryd.prog.info? 37).map (fun i => (i.zero, i.size, i.bytes)) = some (some (.int .i16 0), 1, 2) := by kernel_rfl
abbrev Ints (w : World) (sl : Value) (xs : List Int) : Prop := Vals w sl (xs.map (Value.int .i64))

theorem own_block' {w : World} {base : Nat} {e : TypeId} {size : Nat} {v : Value} {n : Nat} {xs : List Value} (h : w.ownsRow base e size v n xs) {k : Nat} (hk' : v.ownBlock = some k) : base ≤ k := by
  obtain ⟨_, h | ⟨g, cap, cur, hv, hge, hh, _⟩⟩ := h
  · rw [h.1] at hk'; simp [Value.ownBlock] at hk'
  · rw [hv] at hk'; simp [Value.ownBlock] at hk'; subst hk'; exact hge

theorem Ints.at {w : World} {so : Option Addr} {n cp : Nat} {xs : List Int} (h : Ints w (.slice so n cp) xs) {k : Nat} {x : Int} (hk : xs[k]? = some x) : ∃ b o, so = some ⟨b, o, none⟩ ∧ w.cell? ⟨b, o + k, none⟩ = some (.int .i64 x) := by
  have hkl := (List.getElem?_eq_some_iff.1 hk).1
  rcases h with ⟨_, h2⟩ | ⟨b, o, c, h1, h2, h3⟩
  · simp at h2; subst h2; simp at hkl
  · simp only [Value.slice.injEq] at h1
    obtain ⟨rfl, _, _⟩ := h1
    have h4 := h3 k (by simpa using hkl)
    rw [List.getElem?_map, hk] at h4
    exact ⟨b, o, rfl, h4⟩
theorem Vals.len {w : World} {so : Option Addr} {n cp : Nat} {vs : List Value} (h : Vals w (.slice so n cp) vs) : vs.length = n := by
  rcases h with ⟨h1, h2⟩ | ⟨b, o, c, h1, _⟩
  · simp at h1; simp [h2, h1.2.1]
  · simp only [Value.slice.injEq] at h1; exact h1.2.1.symm
theorem Vals.cells {w : World} {so : Option Addr} {n cp : Nat} {vs : List Value} (h : Vals w (.slice so n cp) vs) (hn : 0 < n) : ∃ b o, so = some ⟨b, o, none⟩ ∧ ∀ j u, vs[j]? = some u → w.cell? ⟨b, o + j, none⟩ = some u := by
  rcases h with ⟨h1, h2⟩ | ⟨b, o, c, h1, h2, h3⟩
  · simp at h1; omega
  · simp only [Value.slice.injEq] at h1
    refine ⟨b, o, h1.1, fun j u hj => ?_⟩
    have := (List.getElem?_eq_some_iff.1 hj).1
    rw [h3 j this, hj]
theorem Recs.cells {w : World} {k : Nat} {so : Option Addr} {n cp : Nat} {rs : List (List Value)} (hk : 0 < k) (hr : ∀ r ∈ rs, r.length = k) (h : Recs w k (.slice so n cp) rs) (hn : 0 < n) : ∃ b o, so = some ⟨b, o, none⟩ ∧ ∀ j u, rs.flatten[j]? = some u → w.cell? ⟨b, o + j, none⟩ = some u := by
  rcases h with ⟨h1, h2⟩ | ⟨b, o, c, h1, h2, h3⟩
  · simp at h1; omega
  · simp only [Value.slice.injEq] at h1
    refine ⟨b, o, h1.1, fun j u hj => ?_⟩
    have hjl := (List.getElem?_eq_some_iff.1 hj).1
    rw [flatten_len hr] at hjl
    have hi : j / k < rs.length := Nat.div_lt_of_lt_mul (by rw [Nat.mul_comm]; exact hjl)
    have hm : j % k < k := Nat.mod_lt _ hk
    have g1 : rs[j / k]? = some rs[j / k] := List.getElem?_eq_getElem hi
    have hrl := hr _ (List.getElem_mem hi)
    have g2 : (rs[j / k])[j % k]? = some ((rs[j / k])[j % k]'(by omega)) := List.getElem?_eq_getElem (by omega)
    have g3 := flatten_get hr g1 g2
    have e : j / k * k + j % k = j := by rw [Nat.mul_comm]; exact Nat.div_add_mod j k
    rw [e, hj] at g3
    have g4 := h3 _ _ g1 _ _ g2
    rw [show o + j / k * k + j % k = o + j by omega] at g4
    rw [g4, ← g3]
theorem below_drewN' {B : Nat} {w w' : World} (h : Below B w w') (n : Nat) : Below B w (w'.drewN n) := ⟨h.os, h.tape, h.output, h.size, h.block⟩
theorem vals_blk {w : World} {b : Nat} {vs : List Value} {T : TypeId} (h : Blk w b vs.toArray T) : Vals w (.slice (some ⟨b, 0, none⟩) vs.length vs.length) vs :=
  Or.inr ⟨b, 0, vs.length, rfl, Nat.le_refl _, fun i hi => by
    rw [Nat.zero_add, List.getElem?_eq_getElem hi]
    exact h.cell (by simp [hi])⟩

set_option maxRecDepth 100000 in
set_option maxHeartbeats 1000000 in
theorem clone_steps {w : World} {b o n cp : Nat} {vs : List Value} (hl : vs.length = n * 3) (hn : n ≤ 100000) (hc : ∀ j u, vs[j]? = some u → w.cell? ⟨b, o + j, none⟩ = some u) (h1 : ∀ u ∈ vs, u.oneCell' = true) :
    Calls Tryd.prog 13 #[.slice (some ⟨b, o, none⟩) n cp] w fun e w' => ∃ v, e = .returned v ∧ w'.ownsRow w.heap.size 35 3 v n vs ∧ Below w.heap.size w w' := by
  obtain ⟨i0, hi, hz0, hz1, hz2⟩ := info_at infoT
  have HI : Hid (Tryd.prog.info? 35 = some i0 ∧ i0.zero = some (.agg #[.int .i64 0, .int .i64 0, .slice none 0 0]) ∧ i0.size = 3 ∧ i0.bytes = 40) := ⟨hi, hz0, hz1, hz2⟩
  clear hi hz0 hz1 hz2
  have HL := Lib.hid hl
  have HC : Hid (∀ j u, vs[j]? = some u → (w.alloc (.cells #[] 35)).cell? ((⟨b, o, none⟩ : Addr).add j) = some u) := Lib.hid fun j u hj => by
    have h2 := hc j u hj
    rw [addr_add]
    exact (((Below.refl w.heap.size w).alloc (Nat.le_refl _) _).cell (cell_lt' h2)).trans h2
  have HO := Lib.hid h1
  have hown : Hid ((w.alloc (.cells #[] 35)).ownsRow w.heap.size 35 3 (.slice (some ⟨w.heap.size, 0, none⟩) 0 0) 0 []) := Lib.hid ⟨by simp, Or.inr ⟨w.heap.size, 0, #[], rfl, Nat.le_refl _, Blk.new w #[] _, by omega, by simp [maxLen], by simp, by simp⟩⟩
  have hnl := fun w : World => Lib.run_eql_slice_nil (P := Tryd.prog) w 29 35 (some ⟨b, o, none⟩) n cp 0 0 Tryd.underlying29
  clear hl hc h1
  go_enter Tryd.func13, Tryd.ntmps13
  go_wp2_with (at_builtin; go_must (refine wpList_append_own_at _ rfl _ _ 29 rfl w.heap.size 35 i0 (.agg #[.int .i64 0, .int .i64 0, .slice none 0 0]) 3 40 Tryd.underlying29 HI.out.1 HI.out.2.1 HI.out.2.2.1 HI.out.2.2.2 rfl (by decide) _ _ _ rfl hown.out ⟨b, o, none⟩ n cp vs rfl HL.out HC.out HO.out ?c3 ?c4 ?c5 ?_))
  case c3 => unfold maxLen; omega
  case c4 => omega
  case c5 => simp
  intro v' w3 hown' hgrow _ _
  obtain ⟨so3, cp3, rfl⟩ := own_shape hown'
  have HQ : Hid (w3.ownsRow w.heap.size 35 3 (.slice so3 n cp3) n vs ∧ Below w.heap.size w w3) := by
    try simp only [Nat.zero_add, List.nil_append] at hown'
    refine ⟨hown', ((Below.refl _ _).alloc (Nat.le_refl _) _).trans ((Below.refl _ _).grown hgrow (by simp) ?_)⟩
    intro k hk
    have := (own_block' hown.out hk)
    omega
  clear hown' hgrow
  go_wp2_with fail
  go_ret
  exact ⟨_, rfl, HQ.out.1, HQ.out.2⟩

set_option maxRecDepth 100000 in
set_option maxHeartbeats 1000000 in
theorem clone_shorts {w : World} {b o n cp : Nat} {vs : List Value} (hl : vs.length = n * 1) (hn : n ≤ 100000) (hc : ∀ j u, vs[j]? = some u → w.cell? ⟨b, o + j, none⟩ = some u) (h1 : ∀ u ∈ vs, u.oneCell' = true) :
    Calls Tryd.prog 20 #[.slice (some ⟨b, o, none⟩) n cp] w fun e w' => ∃ v, e = .returned v ∧ w'.ownsRow w.heap.size 37 1 v n vs ∧ Below w.heap.size w w' := by
  obtain ⟨i0, hi, hz0, hz1, hz2⟩ := info_at infoJ
  have HI : Hid (Tryd.prog.info? 37 = some i0 ∧ i0.zero = some (.int .i16 0) ∧ i0.size = 1 ∧ i0.bytes = 2) := ⟨hi, hz0, hz1, hz2⟩
  clear hi hz0 hz1 hz2
  have HL := Lib.hid hl
  have HC : Hid (∀ j u, vs[j]? = some u → (w.alloc (.cells #[] 37)).cell? ((⟨b, o, none⟩ : Addr).add j) = some u) := Lib.hid fun j u hj => by
    have h2 := hc j u hj
    rw [addr_add]
    exact (((Below.refl w.heap.size w).alloc (Nat.le_refl _) _).cell (cell_lt' h2)).trans h2
  have HO := Lib.hid h1
  have hown : Hid ((w.alloc (.cells #[] 37)).ownsRow w.heap.size 37 1 (.slice (some ⟨w.heap.size, 0, none⟩) 0 0) 0 []) := Lib.hid ⟨by simp, Or.inr ⟨w.heap.size, 0, #[], rfl, Nat.le_refl _, Blk.new w #[] _, by omega, by simp [maxLen], by simp, by simp⟩⟩
  have hnl := fun w : World => Lib.run_eql_slice_nil (P := Tryd.prog) w 22 37 (some ⟨b, o, none⟩) n cp 0 0 Tryd.underlying22
  clear hl hc h1
  go_enter Tryd.func20, Tryd.ntmps20
  go_wp2_with (at_builtin; go_must (refine wpList_append_own_at _ rfl _ _ 22 rfl w.heap.size 37 i0 (.int .i16 0) 1 2 Tryd.underlying22 HI.out.1 HI.out.2.1 HI.out.2.2.1 HI.out.2.2.2 rfl (by decide) _ _ _ rfl hown.out ⟨b, o, none⟩ n cp vs rfl HL.out HC.out HO.out ?c3 ?c4 ?c5 ?_))
  case c3 => unfold maxLen; omega
  case c4 => omega
  case c5 => simp
  intro v' w3 hown' hgrow _ _
  obtain ⟨so3, cp3, rfl⟩ := own_shape hown'
  have HQ : Hid (w3.ownsRow w.heap.size 37 1 (.slice so3 n cp3) n vs ∧ Below w.heap.size w w3) := by
    try simp only [Nat.zero_add, List.nil_append] at hown'
    refine ⟨hown', ((Below.refl _ _).alloc (Nat.le_refl _) _).trans ((Below.refl _ _).grown hgrow (by simp) ?_)⟩
    intro k hk
    have := (own_block' hown.out hk)
    omega
  clear hown' hgrow
  go_wp2_with fail
  go_ret
  exact ⟨_, rfl, HQ.out.1, HQ.out.2⟩

set_option maxRecDepth 100000 in
set_option maxHeartbeats 1000000 in
theorem equal_any {w : World} {sa sb : Option Addr} {n m ca cb : Nat} {xs ys : List Int} (ha : Ints w (.slice sa n ca) xs) (hb : Ints w (.slice sb m cb) ys) (hl : n ≤ 100000) (hm : m ≤ 100000) :
    Calls Tryd.prog 14 #[.slice sa n ca, .slice sb m cb] w fun e w' => e = .returned (.bool (decide (xs = ys))) ∧ Below w.heap.size w w' := by
  have HA := Lib.hid ha
  have HB := Lib.hid hb
  have hx : xs.length = n := by have := ha.len; simpa using this
  have hy : ys.length = m := by have := hb.len; simpa using this
  have HX := Lib.hid hx
  have HY := Lib.hid hy
  clear ha hb hx hy
  by_cases hnm : n = m
  · subst hnm
    go_enter Tryd.func14, Tryd.ntmps14
    go_wp2_with fail
    go_loopw [5, 13] (fun _ kv wr => ∃ k : Nat, k ≤ n ∧ kv = .int .i64 k ∧ Hid (xs.take k = ys.take k ∧ Below w.heap.size w wr)) (fun _ kv _ => n - (intOf kv).toNat)
    case atStart => exact ⟨0, by omega, rfl, rfl, Below.refl _ _⟩
    case round =>
      obtain ⟨k, hk, rfl, hR⟩ := hrel
      have HR : Hid (xs.take k = ys.take k ∧ Below w.heap.size w wr) := hR
      clear hR
      by_cases hkn : k < n
      · obtain ⟨x, hx⟩ : ∃ x, xs[k]? = some x := ⟨xs[k]'(by rw [HX.out]; exact hkn), List.getElem?_eq_getElem _⟩
        obtain ⟨y, hy⟩ : ∃ y, ys[k]? = some y := ⟨ys[k]'(by rw [HY.out]; exact hkn), List.getElem?_eq_getElem _⟩
        obtain ⟨b1, o1, rfl, h1⟩ := Ints.at HA.out hx
        obtain ⟨b2, o2, rfl, h2⟩ := Ints.at HB.out hy
        have c1 : wr.cell? ⟨b1, o1 + k, none⟩ = some (.int .i64 x) := (HR.out.2.cell (cell_lt' h1)).trans h1
        have c2 : wr.cell? ⟨b2, o2 + k, none⟩ = some (.int .i64 y) := (HR.out.2.cell (cell_lt' h2)).trans h2
        have HXX := Lib.hid hx
        have HYY := Lib.hid hy
        clear h1 h2 hx hy
        by_cases hxy : x = y
        · subst hxy
          go_wp2_with fail
          go_quiet (fail)
          go_wp2_with fail
          go_roundw
          case rel =>
            refine ⟨k + 1, by omega, by go_num, ?_, below_drewN' HR.out.2 _⟩
            rw [List.take_add_one, List.take_add_one, HXX.out, HYY.out, HR.out.1]
          case measure => simp [intOf]; omega
        · have hne : (x != y) = true := by simp [hxy]
          go_wp2_with fail
          go_quiet (fail)
          go_wp2_with fail
          go_ret
          refine ⟨retB ?_, below_drewN' HR.out.2 _⟩
          symm
          rw [decide_eq_false_iff_not]
          rintro rfl
          rw [HXX.out] at HYY
          have := HYY.out
          simp at this
          exact hxy this
      · have hkx : k = n := by omega
        have HK := Lib.hid hkx
        clear hkx
        go_wp2_with fail
        go_ret
        refine ⟨retB ?_, HR.out.2⟩
        have h1 := HR.out.1
        rw [HK.out, List.take_of_length_le (by have := HX.out; omega), List.take_of_length_le (by have := HY.out; omega)] at h1
        simp [h1]
  · have h1 : ((n : Int) != (m : Int)) = true := by simp; omega
    go_enter Tryd.func14, Tryd.ntmps14
    go_wp2_with fail
    go_ret
    refine ⟨retB ?_, Below.refl _ _⟩
    symm
    rw [decide_eq_false_iff_not]
    rintro rfl
    exact hnm (HX.out.symm.trans HY.out)

set_option maxRecDepth 100000 in
set_option maxHeartbeats 2000000 in
theorem takes_any {w : World} {sl : Value} {ss : List Step} {N : Nat} (hs : Steps w sl ss) (hl : ss.length ≤ 100) (hne : ss ≠ []) (hN : N ≤ 1000) :
    Calls Tryd.prog 10 #[sl, .int .i64 N] w fun e w' => ∃ sv, e = .returned sv ∧ Steps w' sv (ss ++ [Step.get N]) ∧ Below w.heap.size w w' := by
  obtain ⟨i0, hi, hz0, hz1, hz2⟩ := info_at infoT
  have HI : Hid (Tryd.prog.info? 35 = some i0 ∧ i0.zero = some (.agg #[.int .i64 0, .int .i64 0, .slice none 0 0]) ∧ i0.size = 3 ∧ i0.bytes = 40) := ⟨hi, hz0, hz1, hz2⟩
  obtain ⟨rs, hrs, hrl, hrm⟩ := hs
  obtain ⟨so, cp, rfl⟩ := hrs.shape
  obtain ⟨n, hn⟩ : ∃ n, n = rs.length := ⟨_, rfl⟩
  rw [← hn] at hrs ⊢
  have hsh : ∀ r ∈ rs, r.length = 3 ∧ ∀ u ∈ r, u.oneCell' = true := fun r hr => by
    obtain ⟨i, hi⟩ := List.getElem?_of_mem hr
    obtain ⟨s, hs⟩ : ∃ s, ss[i]? = some s := ⟨_, List.getElem?_eq_getElem (by rw [← hrl]; exact (List.getElem?_eq_some_iff.1 hi).1)⟩
    obtain ⟨x1, x2, x3, x4, x5, rfl⟩ := (hrm i r s hi hs).shape
    exact ⟨rfl, fun u hu => by simp at hu; rcases hu with rfl | rfl | rfl <;> rfl⟩
  have hn0 : 0 < n := by rw [hn, hrl]; exact List.length_pos_iff.2 hne
  obtain ⟨b, o, rfl, hcell⟩ := hrs.cells (by decide) (fun r hr => (hsh r hr).1) hn0
  have HM : Hid (n = rs.length ∧ rs.length = ss.length ∧ (∀ r ∈ rs, r.length = 3 ∧ ∀ u ∈ r, u.oneCell' = true) ∧ (∀ (i : Nat) (r : List Value) (s : Step), rs[i]? = some r → ss[i]? = some s → SMem w r s) ∧ ∀ j u, rs.flatten[j]? = some u → w.cell? ⟨b, o + j, none⟩ = some u) := ⟨hn, hrl, hsh, hrm, hcell⟩
  have hn2 : n ≤ 100 := by omega
  clear hi hz0 hz1 hz2 hrs hrl hrm hsh hcell hn hl
  go_enter Tryd.func10, Tryd.ntmps10
  go_wp2_with fail
  refine (clone_steps (vs := rs.flatten) (by rw [flatten_len (fun r hr => (HM.out.2.2.1 r hr).1), ← HM.out.1]) (by omega) HM.out.2.2.2.2 (fun u hu => by obtain ⟨r, hr, hu⟩ := List.mem_flatten.1 hu; exact (HM.out.2.2.1 r hr).2 u hu)).mono ?_
  rintro e w1 ⟨v, rfl, hown, hb⟩
  obtain ⟨t5, d5, rfl⟩ := own_shape hown
  have H1 : Hid (w1.ownsRow w.heap.size 35 3 (.slice t5 n d5) n rs.flatten ∧ Below w.heap.size w w1) := ⟨hown, hb⟩
  clear hown hb
  go_wp2_with (at_builtin; go_must (refine wpList_append_own_at _ rfl (.tmp 6) (.tmp 9) 29 rfl w.heap.size 35 i0 (.agg #[.int .i64 0, .int .i64 0, .slice none 0 0]) 3 40 Tryd.underlying29 HI.out.1 HI.out.2.1 HI.out.2.2.1 HI.out.2.2.2 rfl (by decide) (.slice t5 n d5) n _ rfl (H1.out.1.alloc _) ⟨w1.heap.size, 0, none⟩ 1 1 [.int .i64 2, .int .i64 N, .slice none 0 0] rfl rfl ?c1 ?c2 ?c3 ?c4 ?c5 ?_))
  case c1 => exact two_cells
  case c2 => intro u hu; simp at hu; rcases hu with rfl | rfl | rfl <;> rfl
  case c3 => unfold maxLen; omega
  case c4 => omega
  case c5 => have := H1.out.2.size; simp; omega
  intro v1 w2 hown hgrow _ _
  have HE : Hid (w2.ownsRow w.heap.size 35 3 v1 (n + 1) (rs ++ [[Value.int .i64 2, Value.int .i64 N, Value.slice none 0 0]]).flatten ∧ Below w.heap.size w w2) := by
    refine ⟨?_, H1.out.2.trans (own_grown H1.out.1 hgrow H1.out.2.size)⟩
    rw [List.flatten_append]
    simpa using hown
  clear hown hgrow
  go_wp2_with fail
  go_ret
  refine ⟨_, rfl, ⟨rs ++ [[.int .i64 2, .int .i64 N, .slice none 0 0]], Recs.of_own (by decide) (fun r hr => ?_) HE.out.1, ?_, fun i r s h1 h2 => ?_⟩, HE.out.2⟩
  · rcases List.mem_append.1 hr with h | h
    · exact (HM.out.2.2.1 r h).1
    · simp at h; rw [h]; rfl
  · simp [HM.out.2.1]
  · by_cases hi : i < rs.length
    · rw [List.getElem?_append_left hi] at h1
      rw [List.getElem?_append_left (by rw [← HM.out.2.1]; exact hi)] at h2
      exact (HM.out.2.2.2.1 i r s h1 h2).same HE.out.2
    · have hlt := (List.getElem?_eq_some_iff.1 h1).1
      simp at hlt
      have e : i = rs.length := by omega
      rw [e] at h1 h2
      rw [List.getElem?_append_right (Nat.le_refl _)] at h1
      rw [HM.out.2.1, List.getElem?_append_right (Nat.le_refl _)] at h2
      simp at h1 h2
      subst h1 h2
      rfl
end Go.Proofs.YtmkbgdgfbmfbdaaDoor
