/- FnGRApart's card: true for every two lists of edges. -/
import Derived.Test.YtjijgkjmndpngaaDoorG8
import Derived.Test.YtjijgkjmndpngaaDoorDoorKit
import Derived.Test.YtjijgkjmndpngaaDoorCards
import Derived.Test.YtjijgkjmndpngaaDoorTie
import Derived.LaidMore
import Derived.LaidLaws
import Derived.Stop.LaidErr
import Derived.SevenTiedAt
namespace Go.Proofs.YtjijgkjmndpngaaDoor.LGRApart
open Go.RowKit Go.ChangeShapes Go.WideShapes Go.ChangeAt

theorem errOf_far {l s : List (Int × Int)} {e : Int × Int} (hl : ∀ p ∈ l, small p) (he : 100 ≤ e.1 ∧ 100 ≤ e.2) : errOf (l ++ s) e = errOf s e := by
  have h1 : ∀ a b : Int, 100 ≤ a → (a, b) ∉ l := fun a b ha hm => by have := hl _ hm; unfold small at this; simp at this; omega
  unfold errOf
  split
  · rfl
  · have e1 : ((e.1, e.2) ∈ l ++ s ∨ (e.2, e.1) ∈ l ++ s) ↔ ((e.1, e.2) ∈ s ∨ (e.2, e.1) ∈ s) := by
      rw [List.mem_append, List.mem_append]
      constructor
      · rintro ((h | h) | (h | h))
        · exact absurd h (h1 _ _ he.1)
        · exact Or.inl h
        · exact absurd h (h1 _ _ he.2)
        · exact Or.inr h
      · rintro (h | h)
        · exact Or.inl (Or.inr h)
        · exact Or.inr (Or.inr h)
    by_cases h : (e.1, e.2) ∈ s ∨ (e.2, e.1) ∈ s
    · rw [if_pos h, if_pos (e1.2 h)]
    · rw [if_neg h, if_neg fun h2 => h (e1.1 h2)]
theorem errs_far {l : List (Int × Int)} (hl : ∀ p ∈ l, small p) : ∀ (o s : List (Int × Int)), (∀ e ∈ o, 100 ≤ e.1 ∧ 100 ≤ e.2) → errsFrom (l ++ s) o = errsFrom s o
  | [], _, _ => rfl
  | e :: o, s, h => by
    simp only [errsFrom]
    rw [errOf_far hl (h e (by simp)), List.append_assoc, errs_far hl o (s ++ [e]) fun x hx => h x (by simp [hx])]
theorem moved_far {m : List (Int × Int)} (hm : ∀ p ∈ m, small p) : ∀ e ∈ m.map moved, 100 ≤ e.1 ∧ 100 ≤ e.2 := fun e he => by
  obtain ⟨p, hp, rfl⟩ := List.mem_map.1 he
  have := hm p hp
  unfold small at this
  simp [moved]
  omega
theorem errs_both {l m : List (Int × Int)} (hl : ∀ p ∈ l, small p) (hm : ∀ p ∈ m, small p) : errsFrom [] (l ++ m.map moved) = errsFrom [] l ++ errsFrom [] (m.map moved) := by
  rw [errsFrom_append, List.nil_append, ← errs_far hl (m.map moved) [] (moved_far hm), List.append_nil]
theorem count_both {l m : List (Int × Int)} {a b c : Nat} (hl : ∀ p ∈ l, small p) (hm : ∀ p ∈ m, small p) (ha : VCount l a) (hb : VCount (m.map moved) b) (hc : VCount (l ++ m.map moved) c) : c = a + b := by
  refine hc.uniq ?_
  obtain ⟨x, x1, x2, x3⟩ := ha
  obtain ⟨y, y1, y2, y3⟩ := hb
  refine ⟨x ++ y, ?_, by rw [List.length_append, x2, y2], fun v => ?_⟩
  · rw [List.nodup_append]
    refine ⟨x1, y1, fun p hp q hq e => ?_⟩
    subst e
    obtain ⟨e1, h1, _, h2⟩ := (x3 p).1 hp
    obtain ⟨e2, h3, _, h4⟩ := (y3 p).1 hq
    have h5 := hl _ h1
    have h6 := moved_far hm _ h3
    unfold small at h5
    rcases h2 with rfl | rfl <;> rcases h4 with h4 | h4 <;> omega
  · rw [List.mem_append, x3, y3]
    simp only [isV, List.mem_append]
    constructor
    · rintro (⟨e, h1, h2⟩ | ⟨e, h1, h2⟩)
      · exact ⟨e, Or.inl h1, h2⟩
      · exact ⟨e, Or.inr h1, h2⟩
    · rintro ⟨e, h1 | h1, h2⟩
      · exact Or.inl ⟨e, h1, h2⟩
      · exact Or.inr ⟨e, h1, h2⟩
theorem rec_len (ps : List (Int × Int)) : ∀ r ∈ ps.map rec2, r.length = 2 := by
  intro r hr
  obtain ⟨p, _, rfl⟩ := List.mem_map.1 hr
  rfl
theorem rec_one (ps : List (Int × Int)) : ∀ u ∈ (ps.map rec2).flatten, u.oneCell' = true := by
  intro u hu
  obtain ⟨r, hr, hu⟩ := List.mem_flatten.1 hu
  obtain ⟨p, _, rfl⟩ := List.mem_map.1 hr
  simp [rec2] at hu
  rcases hu with rfl | rfl <;> rfl
theorem int_one (xs : List Int) : ∀ u ∈ xs.map (Value.int .i64), u.oneCell' = true := by
  intro u hu
  obtain ⟨x, _, rfl⟩ := List.mem_map.1 hu
  rfl

set_option maxRecDepth 100000 in
set_option maxHeartbeats 4000000 in
theorem walk {w : World} {so so' : Option Addr} {n n' cp cp' : Nat} {es fs : List (Int × Int)} {a0 a1 a2 : Addr} (hs : Sents w a0 a1 a2) (hx : 0 < n → Pairs w (.slice so n cp) es) (hy : 0 < n' → Pairs w (.slice so' n' cp') fs) (hxl : es.length = n) (hyl : fs.length = n') :
    Calls Tryd.prog 3 #[.slice so n cp, .slice so' n' cp'] w fun e w' => e = .returned (.bool true) ∧ Below w.heap.size w w' := by
  have HS := Lib.hid hs
  have HX := Lib.hid hx
  have HY := Lib.hid hy
  have HXL := Lib.hid hxl
  have HYL := Lib.hid hyl
  clear hs hx hy hxl hyl
  by_cases h1 : 2147483647 < n
  · have g0 : decide ((2147483647 : Int) < (n : Int)) = true := by simp; omega
    go_enter Tryd.func3, Tryd.ntmps3
    go_wp2_with fail
    go_ret
    exact ⟨rfl, Below.refl _ _⟩
  have g0 : decide ((2147483647 : Int) < (n : Int)) = false := by simp; omega
  by_cases h2 : 2147483647 < n'
  · have g1 : decide ((2147483647 : Int) < (n' : Int)) = true := by simp; omega
    go_enter Tryd.func3, Tryd.ntmps3
    go_wp2_with fail
    go_ret
    exact ⟨rfl, Below.refl _ _⟩
  have g1 : decide ((2147483647 : Int) < (n' : Int)) = false := by simp; omega
  go_enter Tryd.func3, Tryd.ntmps3
  go_wp2_with fail
  refine (few_any HX.out HXL.out (by omega)).mono ?_
  rintro e w1 ⟨b1, rfl, hf1, hb1⟩
  have HF1 : Hid (FewSaid b1 es ∧ Below w.heap.size w w1) := ⟨hf1, hb1⟩
  clear hf1 hb1
  cases b1 with
  | false =>
    go_wp2_with fail
    go_ret
    exact ⟨rfl, HF1.out.2⟩
  | true =>
    go_wp2_with fail
    refine (few_any (fun h => (HY.out h).same HF1.out.2) HYL.out (by omega)).mono ?_
    rintro e w2 ⟨b2, rfl, hf2, hb2⟩
    have HF2 : Hid (FewSaid b2 fs ∧ Below w.heap.size w w2) := ⟨hf2, HF1.out.2.trans (hb2.mono HF1.out.2.size)⟩
    clear hf2 hb2
    cases b2 with
    | false =>
      go_wp2_with fail
      go_ret
      exact ⟨rfl, HF2.out.2⟩
    | true =>
      have hf1 := HF1.out.1 rfl
      have hf2 := HF2.out.1 rfl
      rw [HXL.out] at hf1
      rw [HYL.out] at hf2
      have HSM : Hid ((∀ p ∈ es, small p) ∧ ∀ p ∈ fs, small p) := ⟨hf1.2.2, hf2.2.2⟩
      have n0 : 0 < n := hf1.1
      have n20 : n ≤ 20 := hf1.2.1
      have m0 : 0 < n' := hf2.1
      have m20 : n' ≤ 20 := hf2.2.1
      clear hf1 hf2 h1 h2
      go_wp2_with fail
      refine (named_any ((HY.out m0).same HF2.out.2) (by rw [HYL.out]; exact m20) HSM.out.2).mono ?_
      rintro e w3 ⟨v3, rfl, hp, hb⟩
      obtain ⟨s3, c3, rfl⟩ := hp.shape
      have H3 : Hid (Pairs w3 (.slice s3 n' c3) (fs.map moved) ∧ Below w.heap.size w w3) := by
        rw [List.length_map, List.length_map, HYL.out] at hp
        exact ⟨hp, HF2.out.2.trans (hb.mono HF2.out.2.size)⟩
      rw [List.length_map, List.length_map, HYL.out]
      clear hp hb
      go_wp2_with fail
      refine (grRun_any ((HX.out n0).same H3.out.2) (by rw [HXL.out]; omega) (HS.out.same H3.out.2)).mono ?_
      rintro e w4 ⟨v4, nv4, rfl, hv4, hl4, hI, _, hb⟩
      obtain ⟨s4, c4, rfl⟩ := hI.shape
      have H4 : Hid (Ints w4 (.slice s4 n c4) (errsFrom [] es) ∧ Pairs w4 (.slice s3 n' c3) (fs.map moved) ∧ VCount es nv4 ∧ nv4 ≤ 200 ∧ Below w.heap.size w w4) := by
        rw [List.length_map, errsFrom_len, HXL.out] at hI
        exact ⟨hI, H3.out.1.same hb, hv4, hl4, H3.out.2.trans (hb.mono H3.out.2.size)⟩
      rw [List.length_map, errsFrom_len, HXL.out]
      obtain ⟨ze, hze⟩ : ∃ z, z = zeros (errsFrom [] es) := ⟨_, rfl⟩
      rw [← hze]
      have HZE := Lib.hid hze
      clear hv4 hl4 hI hb hze
      go_wp2_with fail
      refine (grRun_any H4.out.2.1 (by rw [List.length_map, HYL.out]; omega) (HS.out.same H4.out.2.2.2.2)).mono ?_
      rintro e w5 ⟨v5, nv5, rfl, hv5, hl5, hI, _, hb⟩
      obtain ⟨s5, c5, rfl⟩ := hI.shape
      have H5 : Hid (Ints w5 (.slice s5 n' c5) (errsFrom [] (fs.map moved)) ∧ Ints w5 (.slice s4 n c4) (errsFrom [] es) ∧ Pairs w5 (.slice s3 n' c3) (fs.map moved) ∧ VCount (fs.map moved) nv5 ∧ nv5 ≤ 200 ∧ Below w.heap.size w w5) := by
        rw [List.length_map, errsFrom_len, List.length_map, HYL.out] at hI
        exact ⟨hI, H4.out.1.same hb, H4.out.2.1.same hb, hv5, hl5, H4.out.2.2.2.2.trans (hb.mono H4.out.2.2.2.2.size)⟩
      rw [List.length_map, errsFrom_len, List.length_map, HYL.out]
      obtain ⟨zf, hzf⟩ : ∃ z, z = zeros (errsFrom [] (fs.map moved)) := ⟨_, rfl⟩
      rw [← hzf]
      have HZF := Lib.hid hzf
      clear hv5 hl5 hI hb hzf
      have hpx := (HX.out n0).same H5.out.2.2.2.2.2
      obtain ⟨bx, ox, rfl, hcx⟩ := Recs.cells (by decide) (rec_len es) hpx n0
      have HCX := Lib.hid hcx
      obtain ⟨by_, oy, rfl, hcy⟩ := Recs.cells (by decide) (rec_len (fs.map moved)) H5.out.2.2.1 m0
      have HCY := Lib.hid hcy
      clear hcx hcy hpx
      obtain ⟨ie, hi, hz0, hz1, hz2⟩ := info_at infoE
      have HI : Hid (Tryd.prog.info? 30 = some ie ∧ ie.zero = some (.agg #[.int .i64 0, .int .i64 0]) ∧ ie.size = 2 ∧ ie.bytes = 16) := ⟨hi, hz0, hz1, hz2⟩
      clear hi hz0 hz1 hz2
      go_wp2_with fail
      refine (clone_edges (by rw [flatten_len (rec_len es), List.length_map, HXL.out]) (by omega) HCX.out (rec_one es)).mono ?_
      rintro e w6 ⟨v6, rfl, hown, hb⟩
      obtain ⟨s6, c6, rfl⟩ := own_shape hown
      have H6 : Hid (w6.ownsRow w5.heap.size 30 2 (.slice s6 n c6) n (es.map rec2).flatten ∧ Below w5.heap.size w5 w6) := ⟨hown, hb⟩
      clear hown hb
      go_wp2_with (at_builtin; go_must (refine wpList_append_own_at _ rfl _ _ 22 rfl w5.heap.size 30 ie (.agg #[.int .i64 0, .int .i64 0]) 2 16 Tryd.underlying22 HI.out.1 HI.out.2.1 HI.out.2.2.1 HI.out.2.2.2 rfl (by decide) _ _ _ rfl H6.out.1 ⟨by_, oy, none⟩ n' c3 ((fs.map moved).map rec2).flatten rfl ?c0 ?c1 ?c2 ?c3 ?c4 ?c5 ?_))
      case c0 => rw [flatten_len (rec_len _), List.length_map, List.length_map, HYL.out]
      case c1 => exact fun j u hj => by rw [addr_add]; exact (H6.out.2.cell (cell_lt' (HCY.out j u hj))).trans (HCY.out j u hj)
      case c2 => exact rec_one _
      case c3 => unfold maxLen; omega
      case c4 => omega
      case c5 => exact H6.out.2.size
      intro v7 w7 hown hgrow _ _
      obtain ⟨s7, c7, rfl⟩ := own_shape hown
      have H7 : Hid (Pairs w7 (.slice s7 (n + n') c7) (es ++ fs.map moved) ∧ Below w5.heap.size w5 w7) := by
        refine ⟨Pairs.of_own (by rw [List.map_append, List.flatten_append, List.map_map]; exact hown), H6.out.2.trans ((Below.refl _ _).grown hgrow H6.out.2.size fun k hk => own_block' H6.out.1 hk)⟩
      clear hown hgrow
      go_wp2_with fail
      refine (grRun_any H7.out.1 (by rw [List.length_append, List.length_map, HXL.out, HYL.out]; omega) (HS.out.same (H5.out.2.2.2.2.2.trans (H7.out.2.mono H5.out.2.2.2.2.2.size)))).mono ?_
      rintro e w8 ⟨v8, nv8, rfl, hv8, _, hI, _, hb⟩
      obtain ⟨s8, c8, rfl⟩ := hI.shape
      have hw : Below w5.heap.size w5 w8 := H7.out.2.trans (hb.mono H7.out.2.size)
      have H8 : Hid (Ints w8 (.slice s8 (n + n') c8) (errsFrom [] es ++ errsFrom [] (fs.map moved)) ∧ Ints w8 (.slice s5 n' c5) (errsFrom [] (fs.map moved)) ∧ Ints w8 (.slice s4 n c4) (errsFrom [] es) ∧ nv8 = nv4 + nv5 ∧ zeros (errsFrom [] (es ++ fs.map moved)) = ze + zf ∧ Below w.heap.size w w8) := by
        rw [List.length_map, errsFrom_len, List.length_append, List.length_map, HXL.out, HYL.out, errs_both HSM.out.1 HSM.out.2] at hI
        refine ⟨hI, H5.out.1.same hw, H5.out.2.1.same hw, count_both HSM.out.1 HSM.out.2 H4.out.2.2.1 H5.out.2.2.2.1 hv8, ?_, H5.out.2.2.2.2.2.trans (hw.mono H5.out.2.2.2.2.2.size)⟩
        rw [errs_both HSM.out.1 HSM.out.2, zeros_append, HZE.out, HZF.out]
      rw [List.length_map, errsFrom_len, List.length_append, List.length_map, HXL.out, HYL.out, H8.out.2.2.2.1, H8.out.2.2.2.2.1]
      have z1 : ze ≤ 20 := by
        have h1 : zeros (errsFrom [] es) ≤ (errsFrom [] es).length := List.length_filter_le _ _
        rw [errsFrom_len] at h1
        have := HZE.out; have := HXL.out; omega
      have z2 : zf ≤ 20 := by
        have h1 : zeros (errsFrom [] (fs.map moved)) ≤ (errsFrom [] (fs.map moved)).length := List.length_filter_le _ _
        rw [errsFrom_len, List.length_map] at h1
        have := HZF.out; have := HYL.out; omega
      have z3 : nv4 ≤ 200 := H4.out.2.2.2.1
      have z4 : nv5 ≤ 200 := H5.out.2.2.2.2.1
      clear hv8 hI hb hw
      go_wp2_with fail
      refine (awake_any (HS.out.same H8.out.2.2.2.2.2)).mono ?_
      rintro e w9 ⟨rfl, hb⟩
      have H9 : Hid (Ints w9 (.slice s8 (n + n') c8) (errsFrom [] es ++ errsFrom [] (fs.map moved)) ∧ Ints w9 (.slice s5 n' c5) (errsFrom [] (fs.map moved)) ∧ Ints w9 (.slice s4 n c4) (errsFrom [] es) ∧ Below w.heap.size w w9) :=
        ⟨H8.out.1.same hb, H8.out.2.1.same hb, H8.out.2.2.1.same hb, H8.out.2.2.2.2.2.trans (hb.mono H8.out.2.2.2.2.2.size)⟩
      obtain ⟨b4, o4, rfl, hc4⟩ := H9.out.2.2.1.cells n0
      obtain ⟨b5, o5, rfl, hc5⟩ := H9.out.2.1.cells m0
      have HC4 := Lib.hid hc4
      have HC5 := Lib.hid hc5
      have t1 : (((nv4 + nv5 : Nat) : Int) == (nv4 : Int) + (nv5 : Int)) = true := by simp
      have t2 : (((ze + zf : Nat) : Int) == (ze : Int) + (zf : Int)) = true := by simp
      clear hb hc4 hc5
      obtain ⟨i3, hi, hz0, hz1, hz2⟩ := info_at info3
      have HI3 : Hid (Tryd.prog.info? 3 = some i3 ∧ i3.zero = some (.int .i64 0) ∧ i3.size = 1 ∧ i3.bytes = 8) := ⟨hi, hz0, hz1, hz2⟩
      clear hi hz0 hz1 hz2
      go_wp2_with fail
      refine (clone_ints (by rw [List.length_map, errsFrom_len, HXL.out]; omega) (by omega) HC4.out (int_one _)).mono ?_
      rintro e wa ⟨va, rfl, hown, hb⟩
      obtain ⟨sa, ca, rfl⟩ := own_shape hown
      have HA : Hid (wa.ownsRow w9.heap.size 3 1 (.slice sa n ca) n ((errsFrom [] es).map (Value.int .i64)) ∧ Below w9.heap.size w9 wa) := ⟨hown, hb⟩
      clear hown hb
      go_wp2_with (at_builtin; go_must (refine wpList_unguard (by rfl) ?_; refine wpList_append_own_at _ rfl _ _ 25 rfl w9.heap.size 3 i3 (.int .i64 0) 1 8 Tryd.underlying25 HI3.out.1 HI3.out.2.1 HI3.out.2.2.1 HI3.out.2.2.2 rfl (by decide) _ _ _ rfl HA.out.1 ⟨b5, o5, none⟩ n' c5 ((errsFrom [] (fs.map moved)).map (Value.int .i64)) rfl ?e0 ?e1 ?e2 ?e3 ?e4 ?e5 ?_))
      case e0 => rw [List.length_map, errsFrom_len, List.length_map, HYL.out]; omega
      case e1 => exact fun j u hj => by rw [addr_add]; exact (HA.out.2.cell (cell_lt' (HC5.out j u hj))).trans (HC5.out j u hj)
      case e2 => exact int_one _
      case e3 => unfold maxLen; omega
      case e4 => omega
      case e5 => exact HA.out.2.size
      intro vb wb hown hgrow _ _
      obtain ⟨sb, cb, rfl⟩ := own_shape hown
      have hbb : Below w9.heap.size w9 wb := HA.out.2.trans ((Below.refl _ _).grown hgrow HA.out.2.size fun k hk => own_block' HA.out.1 hk)
      have HB : Hid (Ints wb (.slice sb (n + n') cb) (errsFrom [] es ++ errsFrom [] (fs.map moved)) ∧ Ints wb (.slice s8 (n + n') c8) (errsFrom [] es ++ errsFrom [] (fs.map moved)) ∧ Below w.heap.size w wb) := by
        refine ⟨Vals.of_own (by rw [List.map_append]; exact hown), H9.out.1.same hbb, H9.out.2.2.2.trans (hbb.mono H9.out.2.2.2.size)⟩
      clear hown hgrow hbb
      go_wp2_with fail
      refine (equal_any HB.out.1 HB.out.2.1 (by omega) (by omega)).mono ?_
      rintro e wz ⟨rfl, hb⟩
      have HZ : Hid (Below w.heap.size w wz) := HB.out.2.2.trans (hb.mono HB.out.2.2.size)
      clear hb
      rw [decide_eq_true rfl]
      go_wp2_with fail
      go_ret
      exact ⟨rfl, HZ.out⟩

theorem gn0 : Tryd.prog.globalNamed "given.example/pub-spokeshave/pub/godatastructures/graph.ErrVertexNotFound" = some 0 := by kernel_rfl
theorem gn1 : Tryd.prog.globalNamed "given.example/pub-spokeshave/pub/godatastructures/graph.ErrSelfLoop" = some 1 := by kernel_rfl
theorem gn2 : Tryd.prog.globalNamed "given.example/pub-spokeshave/pub/godatastructures/graph.ErrParallelEdge" = some 2 := by kernel_rfl
theorem gt0 : (Tryd.prog.globals[0]?).map (·.type) = some 48 := by kernel_rfl
theorem gt1 : (Tryd.prog.globals[1]?).map (·.type) = some 48 := by kernel_rfl
theorem gt2 : (Tryd.prog.globals[2]?).map (·.type) = some 48 := by kernel_rfl
theorem cellsE : Tryd.prog.cellsOf 81 = 1 := by kernel_rfl
theorem cellsS : Tryd.prog.cellsOf 9 = 1 := by kernel_rfl
theorem star : "*" ++ "errors.errorString" = "*errors.errorString" := by decide
theorem rowE (u : TypeId) (h : Tryd.prog.typeName? 3 u = some "*errors.errorString") : u = 64 :=
  typeName_ptr_named (nm := "errors.errorString") (by rw [star]; kernel_rfl) (by kernel_rfl) (by decide) u (by rw [star]; exact h)

/-- What the listed variables give a walk. -/
theorem sents_of_laid {W : World} (h : laidMetH Tryd.prog Rows.fnGRApartRow.laid W) : ∃ a0 a1 a2, Sents W a0 a1 a2 := by
  rw [MakeChecks.laidMetH_plain _ _ _ (by kernel_rfl)] at h
  obtain ⟨ps, ⟨g0, t0, cs0, f0, p0, q0, hg0, ht0, hv0, hd0, ⟨g1, t1, cs1, f1, p1, q1, hg1, ht1, hv1, hd1, ⟨g2, t2, cs2, f2, p2, q2, hg2, ht2, hv2, hd2, hq2, e2⟩, e1⟩, e0⟩, hnd, hrows⟩ := h
  obtain rfl := Option.some.inj (gn0.symm.trans hg0)
  obtain rfl := Option.some.inj (gn1.symm.trans hg1)
  obtain rfl := Option.some.inj (gn2.symm.trans hg2)
  obtain rfl := Option.some.inj (gt0.symm.trans ht0)
  obtain rfl := Option.some.inj (gt1.symm.trans ht1)
  obtain rfl := Option.some.inj (gt2.symm.trans ht2)
  have hq2' : q2 = [] := hq2
  subst hq2'
  subst e2
  subst e1
  subst e0
  obtain ⟨l0⟩ := cs0
  obtain ⟨l1⟩ := cs1
  obtain ⟨l2⟩ := cs2
  have ok0 : ∀ u v, l0 = [.iface u v] → Value.okWide Tryd.prog W .any 0 u v := fun u v e => by
    subst e
    exact (hrows 0 0 (by simp [MemPlace.row])).2 u v (by simpa using World.var?_cell hg0 hv0 0)
  have ok1 : ∀ u v, l1 = [.iface u v] → Value.okWide Tryd.prog W .any 0 u v := fun u v e => by
    subst e
    exact (hrows 1 0 (by simp [MemPlace.row])).2 u v (by simpa using World.var?_cell hg1 hv1 0)
  have ok2 : ∀ u v, l2 = [.iface u v] → Value.okWide Tryd.prog W .any 0 u v := fun u v e => by
    subst e
    exact (hrows 2 0 (by simp [MemPlace.row])).2 u v (by simpa using World.var?_cell hg2 hv2 0)
  obtain ⟨a0, s0, rfl, hc0, hs0, hz0, rfl⟩ := errorString_of_trod Tryd.underlying48 rowE Tryd.underlying64 Tryd.underlying81 rfl rfl Tryd.underlying9 cellsE cellsS hd0 ok0
  obtain ⟨a1, s1, rfl, hc1, hs1, hz1, rfl⟩ := errorString_of_trod Tryd.underlying48 rowE Tryd.underlying64 Tryd.underlying81 rfl rfl Tryd.underlying9 cellsE cellsS hd1 ok1
  obtain ⟨a2, s2, rfl, hc2, hs2, hz2, rfl⟩ := errorString_of_trod Tryd.underlying48 rowE Tryd.underlying64 Tryd.underlying81 rfl rfl Tryd.underlying9 cellsE cellsS hd2 ok2
  obtain ⟨c0, t0, hb0⟩ := (hrows a0.block a0.off (by simp [MemPlace.row])).1
  obtain ⟨c1, t1, hb1⟩ := (hrows a1.block a1.off (by simp [MemPlace.row])).1
  obtain ⟨c2, t2, hb2⟩ := (hrows a2.block a2.off (by simp [MemPlace.row])).1
  have cv0 : W.cell? ⟨0, 0, none⟩ = some (.iface 64 (.pointer (some a0))) := by simpa using World.var?_cell hg0 hv0 0
  have cv1 : W.cell? ⟨1, 0, none⟩ = some (.iface 64 (.pointer (some a1))) := by simpa using World.var?_cell hg1 hv1 0
  have cv2 : W.cell? ⟨2, 0, none⟩ = some (.iface 64 (.pointer (some a2))) := by simpa using World.var?_cell hg2 hv2 0
  refine ⟨a0, a1, a2, ⟨cv0, cv1, cv2, ?_, ?_, ?_, ⟨c0, t0, hb0⟩, ⟨c1, t1, hb1⟩, ⟨c2, t2, hb2⟩⟩⟩
  · rintro rfl
    simp [MemPlace.row] at hnd
  · rintro rfl
    simp [MemPlace.row] at hnd
  · rintro rfl
    simp [MemPlace.row] at hnd

theorem own : ownKnob Tryd.prog.godebug = none := by kernel_rfl
theorem laidOut : laidOutB Tryd.prog = true := by kernel_rfl
theorem door_met (os : Os) (args : Array Value) : laidMetH Tryd.prog Rows.fnGRApartRow.laid ((World.doorLaid Tryd.prog 400 os).forCall (fun _ _ => 0) ⟨#[], args, []⟩).memory :=
  laidMetH_of_parts3 (fuel := 8) (laidMet_of_run' 8 (by kernel_rfl) (by kernel_rfl)) (by kernel_rfl) (by kernel_rfl)

set_option maxRecDepth 100000 in
theorem lifted (os : Os) (started : os.Started) (H : Type) (enc : TypeId × Value → H) :
    ReturnsInHanded {} Tryd.checked os 3 .any (fun w args => (Rows.fnGRApartSpec.pre enc Tryd.prog Tryd.f3 [] false w args ∧ laidMetH Tryd.prog Rows.fnGRApartRow.laid w) ∧ sizedMet enc Tryd.prog Tryd.f3 (OpenSpec.ofChange Rows.fnGRApartSpec) false w args) (Rows.fnGRApartSpec.post enc Tryd.prog Tryd.f3 false true false false) := by
  refine DoorKit.lifted (C := Tryd.checked) (T := 4) own started (by kernel_rfl) Tryd.func3 laidOut (by kernel_rfl) (by kernel_rfl) Tryd.underlying4 (by kernel_rfl) ?_
    (ChangeSpec.witness_shaped (enc := enc) (C := Tryd.checked) (os := os) (X := fun w _ => laidMetH Tryd.prog Rows.fnGRApartRow.laid w) false (World.doorLaid Tryd.prog 400 os) #[.slice none 0 0, .slice none 0 0] 8 rfl (World.shaped_of_RefB (by kernel_rfl) (by kernel_rfl)) (by kernel_rfl) (by kernel_rfl) (by kernel_rfl) (door_met os _)) ?_
  · intro ds gs hd hg
    match ds, hd, gs, hg with
    | [_, _], _, [_, _, _], _ => rfl
  · intro W base args ds p hval0 hA0 _ hL
    have hval : ∀ (j : Nat) t v, Tryd.f3.params[j]? = some t → args[j]? = some v → Value.okWide Tryd.prog W .any base t v := hval0
    have hA : DataW.TrodAll enc Tryd.prog W 0 (fun _ => true) true Tryd.f3.params.toList args.toList ds p := hA0
    rw [Tryd.params3] at hA hval
    obtain ⟨v0, vs0, d0, ds0, p0, q0, hargs, rfl, rfl, h0, r0⟩ := trodAll_cons hA
    obtain ⟨v1, vs1, d1, ds1, p1, q1, rfl, rfl, rfl, h1, r1⟩ := trodAll_cons r0
    obtain ⟨rfl, rfl, rfl⟩ := trodAll_nil r1
    obtain rfl : args = #[v0, v1] := by cases args; simp_all
    obtain ⟨sk0, nk0, ck0, rfl⟩ := okWide_slice Tryd.underlying22 (hval 0 22 v0 rfl rfl)
    obtain ⟨fu0, hf0⟩ := h0
    obtain ⟨so0, n0, cp0, xs0, hw0, hl0, hv0, hb0⟩ := open_pairs Tryd.underlying22 Tryd.underlying30 (by kernel_rfl) rfl rfl rfl rfl Tryd.underlying3 (by kernel_rfl) hf0
    rw [hw0]
    obtain ⟨sk1, nk1, ck1, rfl⟩ := okWide_slice Tryd.underlying22 (hval 1 22 v1 rfl rfl)
    obtain ⟨fu1, hf1⟩ := h1
    obtain ⟨so1, n1, cp1, xs1, hw1, hl1, hv1, hb1⟩ := open_pairs Tryd.underlying22 Tryd.underlying30 (by kernel_rfl) rfl rfl rfl rfl Tryd.underlying3 (by kernel_rfl) hf1
    rw [hw1]
    exact (by obtain ⟨a0, a1, a2, hs⟩ := sents_of_laid hL; exact walk hs hv0 hv1 hl0 hl1)

theorem row_proved : Rows.FnGRApartSaid :=
  OpenClaim.holds_of_wide 3 Tryd.f3 rfl rfl rfl rfl rfl rfl rfl ⟨rfl, rfl, rfl, rfl, rfl⟩ rfl rfl rfl rfl rfl (by kernel_rfl) Tryd.func3 (by kernel_rfl)
    (of_decide_eq_true (by kernel_rfl)) (by unfold Func.isWrapper; first | (rw [if_pos (by decide +kernel)]; kernel_rfl) | (rw [if_neg (by decide +kernel)]; exact ⟨rfl, rfl⟩))
    (fun os started H enc _ => lifted os started H enc)

theorem proved : Rows.FnGRApartCardSaid :=
  Claim7.holds_tied_plain_at .later [] Rows.fnGRApartCard.laidKinds true Rows.fnGRApartCard.stood.harness Rows.fnGRApartCard.stood.looks
    row_proved (fun _ h => by cases h) (by kernel_rfl) (fun _ h => by cases h) fnGRApart_row_tie rfl ⟨rfl, rfl⟩ (by kernel_rfl) rfl
    (fun f fn hf hfn => by
      obtain rfl : f = 3 := Option.some.inj ((show Tryd.prog.funcNamed "given.example/pub-spokeshave/laws.FnGRApart" = some 3 by kernel_rfl).symm.trans hf) |>.symm
      obtain rfl : fn = Tryd.f3 := (Option.some.inj (Tryd.func3.symm.trans hfn)).symm
      exact ⟨by kernel_rfl, fun j t ht => by
        have hall : (Tryd.f3.params.toList.all fun u => !Tryd.prog.wantsStandIn u) = true := by kernel_rfl
        have hm : t ∈ Tryd.f3.params.toList := Array.mem_toList_iff.2 (Array.mem_of_getElem? ht)
        exact (show Tryd.prog.wantsStandIn t = false by simpa using List.all_eq_true.1 hall t hm)⟩)
    (by kernel_rfl)
#print axioms proved
end Go.Proofs.YtjijgkjmndpngaaDoor.LGRApart
