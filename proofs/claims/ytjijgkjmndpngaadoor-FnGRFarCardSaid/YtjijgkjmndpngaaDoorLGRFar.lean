/- FnGRFar's card: true for every list of edges and every three numbers. -/
import Derived.Test.YtjijgkjmndpngaaDoorG10
import Derived.Test.YtjijgkjmndpngaaDoorDoorKit
import Derived.Test.YtjijgkjmndpngaaDoorCards
import Derived.Test.YtjijgkjmndpngaaDoorTie
import Derived.LaidMore
import Derived.LaidLaws
import Derived.Stop.LaidErr
import Derived.SevenTiedAt
namespace Go.Proofs.YtjijgkjmndpngaaDoor.LGRFar
open Go.RowKit Go.ChangeShapes Go.WideShapes Go.ChangeAt

theorem open_arr3 {H : Type} {P : Program} {enc : TypeId × Value → H} {w : World} {base b2 : Nat} {sp : Nat → Bool} {held : Bool} {t e : TypeId} {v : Value} {d : DataW H} {p : List MemPlace} {r : Reach} (ht : P.underlying t = some (.array 3 e)) (he : P.underlying e = some (.int .u8)) (ce : P.cellsOf e = 1) (ct : P.cellsOf t = 3)
    (hv : Value.okWide P w r b2 t v) (h : DataW.Trod enc P w base sp held t v d p) : ∃ x0 x1 x2 : Nat, v = .agg #[.int .u8 x0, .int .u8 x1, .int .u8 x2] ∧ x0 < 256 ∧ x1 < 256 ∧ x2 < 256 := by
  simp only [Value.okWide, ht] at hv
  obtain ⟨cs, rfl, hsz, _⟩ := hv
  rw [ct] at hsz
  obtain ⟨l⟩ := cs
  match l, hsz with
  | [c0, c1, c2], _ =>
    obtain ⟨fuel, hf⟩ := h
    obtain ⟨xs, m, _, _, _, hlen, hg⟩ := DataW.trod_array ht hf
    have key : ∀ (i : Nat) (c : Value), i < 3 → [c0, c1, c2][i]? = some c → ∃ x : Nat, c = .int .u8 x ∧ x < 256 := fun i c hi hc => by
      have h1 := hg i hi
      rw [ce] at h1
      have h2 : ((Value.cells (.agg #[c0, c1, c2])).toList.drop (i * 1)).take 1 = [c] := by
        match i, hi, hc with
        | 0, _, hc => simp at hc; subst hc; rfl
        | 1, _, hc => simp at hc; subst hc; rfl
        | 2, _, hc => simp at hc; subst hc; rfl
      rw [h2] at h1
      have h3 : xs[i]? = some xs[i] := List.getElem?_eq_getElem (by omega)
      rw [h3] at h1
      obtain ⟨a, e0, _, w0⟩ := DataW.trod_int he h1
      have hb := bounds_u8 w0
      simp at e0
      exact ⟨a.toNat, by rw [e0, Int.toNat_of_nonneg hb.1], by omega⟩
    obtain ⟨x0, rfl, y0⟩ := key 0 c0 (by omega) rfl
    obtain ⟨x1, rfl, y1⟩ := key 1 c1 (by omega) rfl
    obtain ⟨x2, rfl, y2⟩ := key 2 c2 (by omega) rfl
    exact ⟨x0, x1, x2, rfl, y0, y1, y2⟩

set_option maxRecDepth 100000 in
set_option maxHeartbeats 4000000 in
theorem walk {w : World} {so : Option Addr} {n cp : Nat} {es : List (Int × Int)} {a0 a1 a2 : Addr} (hs : Sents w a0 a1 a2) (hx : 0 < n → Pairs w (.slice so n cp) es) (hxl : es.length = n) (x0 x1 x2 : Nat) (hb0 : x0 < 256) (hb1 : x1 < 256) (hb2 : x2 < 256) :
    Calls Tryd.prog 4 #[.slice so n cp, .agg #[.int .u8 x0, .int .u8 x1, .int .u8 x2]] w fun e w' => e = .returned (.bool true) ∧ Below w.heap.size w w' := by
  have HS := Lib.hid hs
  have HX := Lib.hid hx
  have HXL := Lib.hid hxl
  clear hs hx hxl
  by_cases h1 : 2147483647 < n
  · have g0 : decide ((2147483647 : Int) < (n : Int)) = true := by simp; omega
    go_enter Tryd.func4, Tryd.ntmps4
    go_wp2_with fail
    go_ret
    exact ⟨rfl, (Below.refl _ _).alloc (Nat.le_refl _) _⟩
  have g0 : decide ((2147483647 : Int) < (n : Int)) = false := by simp; omega
  have HA : Hid (Blk (w.alloc (.cells #[.int .u8 x0, .int .u8 x1, .int .u8 x2] 35)) w.heap.size #[.int .u8 x0, .int .u8 x1, .int .u8 x2] 35 ∧ Below w.heap.size w (w.alloc (.cells #[.int .u8 x0, .int .u8 x1, .int .u8 x2] 35))) := ⟨Blk.new w _ _, (Below.refl _ _).alloc (Nat.le_refl _) _⟩
  go_enter Tryd.func4, Tryd.ntmps4
  go_wp2_with fail
  refine (few_any (fun h => (HX.out h).same HA.out.2) HXL.out (by omega)).mono ?_
  rintro e w1 ⟨b1, rfl, hf1, hb⟩
  have HF1 : Hid (FewSaid b1 es ∧ Blk w1 w.heap.size #[.int .u8 x0, .int .u8 x1, .int .u8 x2] 35 ∧ Below w.heap.size w w1) := ⟨hf1, HA.out.1.below hb HA.out.1.lt, HA.out.2.trans (hb.mono HA.out.2.size)⟩
  clear hf1 hb
  cases b1 with
  | false =>
    go_wp2_with fail
    go_ret
    exact ⟨rfl, HF1.out.2.2⟩
  | true =>
    have hf1 := HF1.out.1 rfl
    rw [HXL.out] at hf1
    have n0 : 0 < n := hf1.1
    have n20 : n ≤ 20 := hf1.2.1
    clear hf1 h1
    have hpx := (HX.out n0).same HF1.out.2.2
    obtain ⟨i0, hi0⟩ : ∃ i, i = x0 % n := ⟨_, rfl⟩
    obtain ⟨i1, hi1⟩ : ∃ i, i = x1 % n := ⟨_, rfl⟩
    obtain ⟨i2, hi2⟩ : ∃ i, i = x2 % n := ⟨_, rfl⟩
    have l0 : i0 < n := by rw [hi0]; exact Nat.mod_lt _ n0
    have l1 : i1 < n := by rw [hi1]; exact Nat.mod_lt _ n0
    have l2 : i2 < n := by rw [hi2]; exact Nat.mod_lt _ n0
    obtain ⟨⟨p0, q0⟩, e0⟩ : ∃ p, es[i0]? = some p := ⟨es[i0]'(by rw [HXL.out]; exact l0), List.getElem?_eq_getElem _⟩
    obtain ⟨⟨p1, q1⟩, e1⟩ : ∃ p, es[i1]? = some p := ⟨es[i1]'(by rw [HXL.out]; exact l1), List.getElem?_eq_getElem _⟩
    obtain ⟨⟨p2, q2⟩, e2⟩ : ∃ p, es[i2]? = some p := ⟨es[i2]'(by rw [HXL.out]; exact l2), List.getElem?_eq_getElem _⟩
    obtain ⟨b, o, rfl, c0, _⟩ := Pairs.at hpx e0
    obtain ⟨b', o', hbo, _, c1⟩ := Pairs.at hpx e1
    simp only [Option.some.injEq, Addr.mk.injEq] at hbo
    obtain ⟨rfl, rfl, _⟩ := hbo
    obtain ⟨b', o', hbo, c2, _⟩ := Pairs.at hpx e2
    simp only [Option.some.injEq, Addr.mk.injEq] at hbo
    obtain ⟨rfl, rfl, _⟩ := hbo
    have d0 := HF1.out.2.1.cell (i := 0) rfl
    have d1 := HF1.out.2.1.cell (i := 1) rfl
    have d2 := HF1.out.2.1.cell (i := 2) rfl
    have t0 : (x0 : Int) % (n : Int) = (i0 : Int) := by rw [hi0]; rfl
    have t1 : (x1 : Int) % (n : Int) = (i1 : Int) := by rw [hi1]; rfl
    have t2 : (x2 : Int) % (n : Int) = (i2 : Int) := by rw [hi2]; rfl
    have s0 : Int.tmod (x0 : Int) (n : Int) = (i0 : Int) := by rw [hi0]; rfl
    have s1 : Int.tmod (x1 : Int) (n : Int) = (i1 : Int) := by rw [hi1]; rfl
    have s2 : Int.tmod (x2 : Int) (n : Int) = (i2 : Int) := by rw [hi2]; rfl
    have z0 : ((n : Int) == 0) = false := by simp; omega
    simp only at c0 c1 c2 d0 d1 d2
    clear hpx e0 e1 e2 hi0 hi1 hi2
    go_wp2_with fail
    go_quiet (fail)
    clear c0 c1 c2 d0 d1 d2 t0 t1 t2 s0 s1 s2 z0
    have HB1 : Hid (Below w.heap.size w (w1.drewN nq)) := Lib.hid (below_drewN HF1.out.2.2 nq)
    generalize w1.drewN nq = w2 at *
    go_wp2_with fail
    refine (far_any ((HX.out n0).same HB1.out) (by rw [HXL.out]; exact n20) (HS.out.same HB1.out) p0 q1).mono ?_
    rintro e w3 ⟨da, rfl, ha, ha2, hb⟩
    have H3 : Hid (IsDist es p0 q1 da ∧ Below w.heap.size w w3) := ⟨ha, HB1.out.trans (hb.mono HB1.out.size)⟩
    clear ha hb
    go_wp2_with fail
    refine (far_any ((HX.out n0).same H3.out.2) (by rw [HXL.out]; exact n20) (HS.out.same H3.out.2) q1 p2).mono ?_
    rintro e w4 ⟨db, rfl, ha, hb2, hb⟩
    have H4 : Hid (IsDist es q1 p2 db ∧ Below w.heap.size w w4) := ⟨ha, H3.out.2.trans (hb.mono H3.out.2.size)⟩
    clear ha hb
    go_wp2_with fail
    refine (far_any ((HX.out n0).same H4.out.2) (by rw [HXL.out]; exact n20) (HS.out.same H4.out.2) p0 p2).mono ?_
    rintro e w5 ⟨dc, rfl, ha, hc2, hb⟩
    have H5 : Hid (IsDist es p0 p2 dc ∧ Below w.heap.size w w5) := ⟨ha, H4.out.2.trans (hb.mono H4.out.2.size)⟩
    clear ha hb
    go_wp2_with fail
    refine (awake_any (HS.out.same H5.out.2)).mono ?_
    rintro e w6 ⟨rfl, hb⟩
    have H6 : Hid (Below w.heap.size w w6) := H5.out.2.trans (hb.mono H5.out.2.size)
    clear hb
    have m1 := H3.out.1.lt
    have m2 := H4.out.1.lt
    have htri := IsDist.tri H3.out.1 H4.out.1 H5.out.1
    by_cases k1 : da < 0
    · have e1 : decide (da < 0) = true := decide_eq_true k1
      clear htri
      go_wp2_with fail
      refine (far_any ((HX.out n0).same H6.out) (by rw [HXL.out]; exact n20) (HS.out.same H6.out) q1 p0).mono ?_
      rintro e w7 ⟨dd, rfl, ha, _, hb⟩
      obtain rfl := ha.symm H3.out.1
      have H7 : Hid (Below w.heap.size w w7) := H6.out.trans (hb.mono H6.out.size)
      clear ha hb
      go_wp2_with fail
      go_ret
      exact ⟨rfl, H7.out⟩
    · have e1 : decide (da < 0) = false := decide_eq_false k1
      by_cases k2 : db < 0
      · have e2 : decide (db < 0) = true := decide_eq_true k2
        clear htri
        go_wp2_with fail
        refine (far_any ((HX.out n0).same H6.out) (by rw [HXL.out]; exact n20) (HS.out.same H6.out) q1 p0).mono ?_
        rintro e w7 ⟨dd, rfl, ha, _, hb⟩
        obtain rfl := ha.symm H3.out.1
        have H7 : Hid (Below w.heap.size w w7) := H6.out.trans (hb.mono H6.out.size)
        clear ha hb
        go_wp2_with fail
        go_ret
        exact ⟨rfl, H7.out⟩
      · have e2 : decide (db < 0) = false := decide_eq_false k2
        have k3 : 0 ≤ dc := by omega
        have k4 : dc ≤ da + db := by omega
        have e3 : decide (0 ≤ dc) = true := decide_eq_true k3
        have e4 : decide (dc ≤ da + db) = true := decide_eq_true k4
        have e5 : IntKind.i64.wrap (da + db) = da + db := by rw [IntKind.wrap_i64]; omega
        clear htri
        go_wp2_with fail
        refine (far_any ((HX.out n0).same H6.out) (by rw [HXL.out]; exact n20) (HS.out.same H6.out) q1 p0).mono ?_
        rintro e w7 ⟨dd, rfl, ha, _, hb⟩
        obtain rfl := ha.symm H3.out.1
        have H7 : Hid (Below w.heap.size w w7) := H6.out.trans (hb.mono H6.out.size)
        clear ha hb
        go_wp2_with fail
        go_ret
        exact ⟨rfl, H7.out⟩

theorem gn0 : Tryd.prog.globalNamed "given.example/pub-spokeshave/pub/godatastructures/graph.ErrVertexNotFound" = some 0 := by kernel_rfl
theorem gn1 : Tryd.prog.globalNamed "given.example/pub-spokeshave/pub/godatastructures/graph.ErrSelfLoop" = some 1 := by kernel_rfl
theorem gn2 : Tryd.prog.globalNamed "given.example/pub-spokeshave/pub/godatastructures/graph.ErrParallelEdge" = some 2 := by kernel_rfl
theorem gt0 : (Tryd.prog.globals[0]?).map (·.type) = some 48 := by kernel_rfl
theorem gt1 : (Tryd.prog.globals[1]?).map (·.type) = some 48 := by kernel_rfl
theorem gt2 : (Tryd.prog.globals[2]?).map (·.type) = some 48 := by kernel_rfl
theorem cellsE : Tryd.prog.cellsOf 81 = 1 := by kernel_rfl
theorem cellsS : Tryd.prog.cellsOf 9 = 1 := by kernel_rfl
theorem star : "*" ++ "errors.errorString" = "*errors.errorString" := by decide
theorem rowE (u : TypeId) (h : Tryd.prog.typeName? 3 u = some "*errors.errorString") : u = 64 :=
  typeName_ptr_named (nm := "errors.errorString") (by rw [star]; kernel_rfl) (by kernel_rfl) (by decide) u (by rw [star]; exact h)

/-- What the listed variables give a walk. -/
theorem sents_of_laid {W : World} (h : laidMetH Tryd.prog Rows.fnGRFarRow.laid W) : ∃ a0 a1 a2, Sents W a0 a1 a2 := by
  rw [MakeChecks.laidMetH_plain _ _ _ (by kernel_rfl)] at h
  obtain ⟨ps, ⟨g0, t0, cs0, f0, p0, q0, hg0, ht0, hv0, hd0, ⟨g1, t1, cs1, f1, p1, q1, hg1, ht1, hv1, hd1, ⟨g2, t2, cs2, f2, p2, q2, hg2, ht2, hv2, hd2, hq2, e2⟩, e1⟩, e0⟩, hnd, hrows⟩ := h
  obtain rfl := Option.some.inj (gn0.symm.trans hg0)
  obtain rfl := Option.some.inj (gn1.symm.trans hg1)
  obtain rfl := Option.some.inj (gn2.symm.trans hg2)
  obtain rfl := Option.some.inj (gt0.symm.trans ht0)
  obtain rfl := Option.some.inj (gt1.symm.trans ht1)
  obtain rfl := Option.some.inj (gt2.symm.trans ht2)
  have hq2' : q2 = [] := hq2
  subst hq2'
  subst e2
  subst e1
  subst e0
  obtain ⟨l0⟩ := cs0
  obtain ⟨l1⟩ := cs1
  obtain ⟨l2⟩ := cs2
  have ok0 : ∀ u v, l0 = [.iface u v] → Value.okWide Tryd.prog W .any 0 u v := fun u v e => by
    subst e
    exact (hrows 0 0 (by simp [MemPlace.row])).2 u v (by simpa using World.var?_cell hg0 hv0 0)
  have ok1 : ∀ u v, l1 = [.iface u v] → Value.okWide Tryd.prog W .any 0 u v := fun u v e => by
    subst e
    exact (hrows 1 0 (by simp [MemPlace.row])).2 u v (by simpa using World.var?_cell hg1 hv1 0)
  have ok2 : ∀ u v, l2 = [.iface u v] → Value.okWide Tryd.prog W .any 0 u v := fun u v e => by
    subst e
    exact (hrows 2 0 (by simp [MemPlace.row])).2 u v (by simpa using World.var?_cell hg2 hv2 0)
  obtain ⟨a0, s0, rfl, hc0, hs0, hz0, rfl⟩ := errorString_of_trod Tryd.underlying48 rowE Tryd.underlying64 Tryd.underlying81 rfl rfl Tryd.underlying9 cellsE cellsS hd0 ok0
  obtain ⟨a1, s1, rfl, hc1, hs1, hz1, rfl⟩ := errorString_of_trod Tryd.underlying48 rowE Tryd.underlying64 Tryd.underlying81 rfl rfl Tryd.underlying9 cellsE cellsS hd1 ok1
  obtain ⟨a2, s2, rfl, hc2, hs2, hz2, rfl⟩ := errorString_of_trod Tryd.underlying48 rowE Tryd.underlying64 Tryd.underlying81 rfl rfl Tryd.underlying9 cellsE cellsS hd2 ok2
  obtain ⟨c0, t0, hb0⟩ := (hrows a0.block a0.off (by simp [MemPlace.row])).1
  obtain ⟨c1, t1, hb1⟩ := (hrows a1.block a1.off (by simp [MemPlace.row])).1
  obtain ⟨c2, t2, hb2⟩ := (hrows a2.block a2.off (by simp [MemPlace.row])).1
  have cv0 : W.cell? ⟨0, 0, none⟩ = some (.iface 64 (.pointer (some a0))) := by simpa using World.var?_cell hg0 hv0 0
  have cv1 : W.cell? ⟨1, 0, none⟩ = some (.iface 64 (.pointer (some a1))) := by simpa using World.var?_cell hg1 hv1 0
  have cv2 : W.cell? ⟨2, 0, none⟩ = some (.iface 64 (.pointer (some a2))) := by simpa using World.var?_cell hg2 hv2 0
  refine ⟨a0, a1, a2, ⟨cv0, cv1, cv2, ?_, ?_, ?_, ⟨c0, t0, hb0⟩, ⟨c1, t1, hb1⟩, ⟨c2, t2, hb2⟩⟩⟩
  · rintro rfl
    simp [MemPlace.row] at hnd
  · rintro rfl
    simp [MemPlace.row] at hnd
  · rintro rfl
    simp [MemPlace.row] at hnd

theorem own : ownKnob Tryd.prog.godebug = none := by kernel_rfl
theorem laidOut : laidOutB Tryd.prog = true := by kernel_rfl
theorem door_met (os : Os) (args : Array Value) : laidMetH Tryd.prog Rows.fnGRFarRow.laid ((World.doorLaid Tryd.prog 400 os).forCall (fun _ _ => 0) ⟨#[], args, []⟩).memory :=
  laidMetH_of_parts3 (fuel := 8) (laidMet_of_run' 8 (by kernel_rfl) (by kernel_rfl)) (by kernel_rfl) (by kernel_rfl)

set_option maxRecDepth 100000 in
theorem lifted (os : Os) (started : os.Started) (H : Type) (enc : TypeId × Value → H) :
    ReturnsInHanded {} Tryd.checked os 4 .any (fun w args => (Rows.fnGRFarSpec.pre enc Tryd.prog Tryd.f4 [] false w args ∧ laidMetH Tryd.prog Rows.fnGRFarRow.laid w) ∧ sizedMet enc Tryd.prog Tryd.f4 (OpenSpec.ofChange Rows.fnGRFarSpec) false w args) (Rows.fnGRFarSpec.post enc Tryd.prog Tryd.f4 false true false false) := by
  refine DoorKit.lifted (C := Tryd.checked) (T := 4) own started (by kernel_rfl) Tryd.func4 laidOut (by kernel_rfl) (by kernel_rfl) Tryd.underlying4 (by kernel_rfl) ?_
    (ChangeSpec.witness_shaped (enc := enc) (C := Tryd.checked) (os := os) (X := fun w _ => laidMetH Tryd.prog Rows.fnGRFarRow.laid w) false (World.doorLaid Tryd.prog 400 os) #[.slice none 0 0, .agg #[.int .u8 0, .int .u8 0, .int .u8 0]] 8 rfl (World.shaped_of_RefB (by kernel_rfl) (by kernel_rfl)) (by kernel_rfl) (by kernel_rfl) (by kernel_rfl) (door_met os _)) ?_
  · intro ds gs hd hg
    match ds, hd, gs, hg with
    | [_, _], _, [_, _, _], _ => rfl
  · intro W base args ds p hval0 hA0 _ hL
    have hval : ∀ (j : Nat) t v, Tryd.f4.params[j]? = some t → args[j]? = some v → Value.okWide Tryd.prog W .any base t v := hval0
    have hA : DataW.TrodAll enc Tryd.prog W 0 (fun _ => true) true Tryd.f4.params.toList args.toList ds p := hA0
    rw [Tryd.params4] at hA hval
    obtain ⟨v0, vs0, d0, ds0, p0, q0, hargs, rfl, rfl, h0, r0⟩ := trodAll_cons hA
    obtain ⟨v1, vs1, d1, ds1, p1, q1, rfl, rfl, rfl, h1, r1⟩ := trodAll_cons r0
    obtain ⟨rfl, rfl, rfl⟩ := trodAll_nil r1
    obtain rfl : args = #[v0, v1] := by cases args; simp_all
    obtain ⟨sk0, nk0, ck0, rfl⟩ := okWide_slice Tryd.underlying22 (hval 0 22 v0 rfl rfl)
    obtain ⟨fu0, hf0⟩ := h0
    obtain ⟨so0, n0, cp0, xs0, hw0, hl0, hv0, hb0⟩ := open_pairs Tryd.underlying22 Tryd.underlying30 (by kernel_rfl) rfl rfl rfl rfl Tryd.underlying3 (by kernel_rfl) hf0
    rw [hw0]
    obtain ⟨x10, x11, x12, rfl, y10, y11, y12⟩ := open_arr3 Tryd.underlying35 Tryd.underlying5 (by kernel_rfl) (by kernel_rfl) (hval 1 35 v1 rfl rfl) h1
    exact (by obtain ⟨a0, a1, a2, hs⟩ := sents_of_laid hL; exact walk hs hv0 hl0 x10 x11 x12 y10 y11 y12)

theorem row_proved : Rows.FnGRFarSaid :=
  OpenClaim.holds_of_wide 4 Tryd.f4 rfl rfl rfl rfl rfl rfl rfl ⟨rfl, rfl, rfl, rfl, rfl⟩ rfl rfl rfl rfl rfl (by kernel_rfl) Tryd.func4 (by kernel_rfl)
    (of_decide_eq_true (by kernel_rfl)) (by unfold Func.isWrapper; first | (rw [if_pos (by decide +kernel)]; kernel_rfl) | (rw [if_neg (by decide +kernel)]; exact ⟨rfl, rfl⟩))
    (fun os started H enc _ => lifted os started H enc)

theorem proved : Rows.FnGRFarCardSaid :=
  Claim7.holds_tied_plain_at .later [] Rows.fnGRFarCard.laidKinds true Rows.fnGRFarCard.stood.harness Rows.fnGRFarCard.stood.looks
    row_proved (fun _ h => by cases h) (by kernel_rfl) (fun _ h => by cases h) fnGRFar_row_tie rfl ⟨rfl, rfl⟩ (by kernel_rfl) rfl
    (fun f fn hf hfn => by
      obtain rfl : f = 4 := Option.some.inj ((show Tryd.prog.funcNamed "given.example/pub-spokeshave/laws.FnGRFar" = some 4 by kernel_rfl).symm.trans hf) |>.symm
      obtain rfl : fn = Tryd.f4 := (Option.some.inj (Tryd.func4.symm.trans hfn)).symm
      exact ⟨by kernel_rfl, fun j t ht => by
        have hall : (Tryd.f4.params.toList.all fun u => !Tryd.prog.wantsStandIn u) = true := by kernel_rfl
        have hm : t ∈ Tryd.f4.params.toList := Array.mem_toList_iff.2 (Array.mem_of_getElem? ht)
        exact (show Tryd.prog.wantsStandIn t = false by simpa using List.all_eq_true.1 hall t hm)⟩)
    (by kernel_rfl)
#print axioms proved
end Go.Proofs.YtjijgkjmndpngaaDoor.LGRFar
