/- dfOut. -/
import Derived.Test.YtalphojbkeleiaaHH
namespace Go.Proofs.Ytalphojbkeleiaa
open Go.RowKit
theorem recs_blk {w : World} {b k : Nat} {rs : List (List Value)} {T : TypeId} (hk : ∀ r ∈ rs, r.length = k) (h : Blk w b rs.flatten.toArray T) : Recs w k (.slice (some ⟨b, 0, none⟩) rs.length rs.length) rs := by
  refine Or.inr ⟨b, 0, rs.length, rfl, Nat.le_refl _, fun i r hi j v hj => ?_⟩
  rw [Nat.zero_add]
  refine h.cell ?_
  rw [List.getElem?_toArray]
  exact flatten_get hk hi hj
namespace FH
theorem infoI : (Try.prog.info? 3).map (fun i => (i.zero, i.size, i.bytes)) = some (some (.int .i64 0), 1, 8) := by kernel_rfl
theorem cells_two {W : World} {o : Obj} {xs : List Value} {T : TypeId} : ∀ j u, xs[j]? = some u → ((W.alloc o).alloc (.cells xs.toArray T)).cell? ((⟨W.heap.size + 1, 0, none⟩ : Addr).add j) = some u := by
  intro j u hj
  have h := (Blk.new (W.alloc o) xs.toArray T).cell (i := j) (v := u) (by rw [List.getElem?_toArray]; exact hj)
  rw [addr_add, Nat.zero_add]
  simpa using h
def kss : List Step := [.put 7, .put 4, .get]
theorem kss_good : Good kss := by
  refine Good.snoc (ss := [.put 7, .put 4]) (Good.snoc (ss := [.put 7]) (Good.snoc (ss := []) Good.nil fun cl es outs h => ?_) fun cl es outs h => ?_) fun cl es outs h => ?_
  · obtain ⟨_, rfl, _⟩ := h.inv_nil
    exact ⟨by omega, by omega, by simp⟩
  · obtain ⟨cl0, es0, outs0, E, P, h1, h2, _, _⟩ := h.inv (ss := [])
    obtain ⟨_, rfl, _⟩ := h1.inv_nil
    exact ⟨by omega, by omega, by rw [h2.1]; simp⟩
  · obtain ⟨cl0, es0, outs0, E, P, h1, h2, _, _⟩ := h.inv (ss := [.put 7])
    exact ⟨es0.length, 4, by rw [h2.1]; simp⟩
theorem kss_out {cl : Bool} {es : List (Option Int)} {outs : List Out} (h : Ran kss cl es outs) : outs.length = 3 ∧ outs[2]? = some (1, 4, 1) := by
  obtain ⟨cl2, es2, outs2, E2, P2, h2, g2, _, o2⟩ := h.inv (ss := [.put 7, .put 4])
  obtain ⟨cl1, es1, outs1, E1, P1, h1, g1, _, o1⟩ := h2.inv (ss := [.put 7])
  obtain ⟨cl0, es0, outs0, E0, P0, h0, g0, _, o0⟩ := h1.inv (ss := [])
  obtain ⟨_, rfl, rfl⟩ := h0.inv_nil
  have e1 : es1 = [some 7] := g0.1
  have e2 : es2 = [some 7, some 4] := by have := g1.1; rw [e1] at this; exact this
  obtain ⟨i, k1, k2, k3, k4⟩ := g2
  rw [e2] at k1 k3 k4
  have hi : i = 1 ∧ P2 = 4 := by
    match i, k1 with
    | 0, k1 => simp at k1; subst k1; have := k3 1 4 rfl; omega
    | 1, k1 => simp at k1; exact ⟨rfl, k1.symm⟩
    | i + 2, k1 => simp at k1
  obtain ⟨rfl, rfl⟩ := hi
  subst k2
  have hl : liv es = 1 := by rw [k4]; rfl
  rw [o2, o1, o0, hl]
  simp
def OutDone (ss : List Step) (n many : Nat) (w : World) (e : Ending) (w' : World) : Prop :=
  ∃ sl cl es outs, e = .returned (.tuple #[sl, .bool true]) ∧ Ran (ss ++ List.replicate many Step.get) cl es outs ∧ Ints w' sl (pri (outs.drop n)) ∧ Below w.heap.size w w'
set_option maxRecDepth 100000 in
set_option maxHeartbeats 8000000 in
theorem out_any {w : World} {so : Option Addr} {n cp many : Nat} {ss : List Step} (hs : Recs w 4 (.slice so n cp) (ss.map stp)) (h0 : 0 < n) (hn : n + many ≤ 150) (hg : Good (ss ++ List.replicate many Step.get)) (hz : ∀ cl es outs, Ran (ss ++ List.replicate many Step.get) cl es outs → liv es = 0) (hm : 0 < many) :
    Calls Try.prog 7 #[.slice so n cp, .int .i64 (many : Nat)] w (OutDone ss n many w) := by
  obtain ⟨i0, hi, hz0, hz1, hz2⟩ := info_at infoT
  have HI : Hid (Try.prog.info? 30 = some i0 ∧ i0.zero = some (.agg #[.int .i64 0, .int .i64 0, .int .i64 0, .slice none 0 0]) ∧ i0.size = 4 ∧ i0.bytes = 48) := ⟨hi, hz0, hz1, hz2⟩
  have hlen : ss.length = n := by have := hs.len; simpa using this
  obtain ⟨b, o, rfl, hcell⟩ := hs.cells (by decide) (fun r hr => by obtain ⟨s, _, rfl⟩ := List.mem_map.1 hr; exact stp_len s) h0
  have HH : Hid (ss.length = n ∧ Good (ss ++ List.replicate many Step.get) ∧ (∀ cl es outs, Ran (ss ++ List.replicate many Step.get) cl es outs → liv es = 0) ∧ (∀ j u, (ss.map stp).flatten[j]? = some u → w.cell? ⟨b, o + j, none⟩ = some u)) := ⟨hlen, hg, hz, hcell⟩
  clear hi hz0 hz1 hz2 hs hlen hg hz hcell
  go_enter Try.func7, Try.ntmps7
  go_wp2_with fail
  refine (run_any (ss := kss) (steps_of (recs_blk (rs := kss.map stp) (T := 30) (fun r hr => by obtain ⟨s, _, rfl⟩ := List.mem_map.1 hr; exact stp_len s) (Blk.new w _ _))) (by decide) kss_good).mono ?_
  rintro e w1 ⟨sv, cl, es, outs, rfl, hr, hrec, hnew, hb⟩
  obtain ⟨hl3, h2⟩ := kss_out hr
  obtain ⟨kb, ko, kc, hsv, kcell⟩ := hrec.at (i := 2) (r := sd (1, 4, 1)) (by rw [List.getElem?_map, h2]; rfl)
  subst hsv
  rw [List.length_map, hl3]
  have k1 : w1.cell? ⟨kb, ko + 10 + 1, none⟩ = some (.int .i64 1) := kcell 1 _ rfl
  have k2 : w1.cell? ⟨kb, ko + 10 + 2, none⟩ = some (.int .i64 4) := kcell 2 _ rfl
  have k3 : w1.cell? ⟨kb, ko + 10 + 3, none⟩ = some (.int .i64 1) := kcell 3 _ rfl
  have hbw : Below w.heap.size w w1 := ((Below.refl _ _).alloc (Nat.le_refl _) _).trans (hb.mono (by simp))
  have H1 : Hid (Below w.heap.size w w1 ∧ ∀ j u, (ss.map stp).flatten[j]? = some u → w1.cell? ⟨b, o + j, none⟩ = some u) := ⟨hbw, fun j u hj => by have h := HH.out.2.2.2 j u hj; exact (hbw.cell (cell_lt' h)).trans h⟩
  clear hr hrec hnew hb hl3 h2 kcell hbw
  go_wp2_with fail
  refine (clone_steps (vs := (ss.map stp).flatten) (by rw [flatten_len (k := 4) (fun r hr => by obtain ⟨s, _, rfl⟩ := List.mem_map.1 hr; exact stp_len s), List.length_map, HH.out.1]) (by omega) H1.out.2 (fun u hu => by obtain ⟨r, hr, hu⟩ := List.mem_flatten.1 hu; obtain ⟨s, _, rfl⟩ := List.mem_map.1 hr; cases s <;> (simp [stp] at hu; rcases hu with rfl | rfl | rfl | rfl <;> rfl))).mono ?_
  rintro e w2 ⟨v, rfl, hown, hb⟩
  obtain ⟨t8, d8, rfl⟩ := own_shape hown
  obtain ⟨B, hB⟩ : ∃ B, B = w1.heap.size := ⟨_, rfl⟩
  have H2 : Hid (w2.ownsRow B 30 4 (.slice t8 n d8) (n + 0) ((ss ++ List.replicate 0 Step.get).map stp).flatten ∧ Below w.heap.size w w2 ∧ B ≤ w2.heap.size ∧ w.heap.size ≤ B) := by
    rw [hB]
    refine ⟨?_, H1.out.1.trans (hb.mono H1.out.1.size), hb.size, H1.out.1.size⟩
    simpa using hown
  clear hown hb hB k1 k2 k3
  go_wp2_with fail
  go_loopw [8, 47] (fun sv iv wr => ∃ (k : Nat), iv = .int .i64 (k : Nat) ∧ k ≤ many ∧ Hid (wr.ownsRow B 30 4 sv (n + k) ((ss ++ List.replicate k Step.get).map stp).flatten ∧ Below w.heap.size w wr ∧ B ≤ wr.heap.size)) (fun _ iv _ => many - (intOf iv).toNat)
  case atStart => exact ⟨0, rfl, by omega, H2.out.1, H2.out.2.1, H2.out.2.2.1⟩
  case round =>
    obtain ⟨k, rfl, hk, hR⟩ := hrel
    have HR : Hid (wr.ownsRow B 30 4 u8 (n + k) ((ss ++ List.replicate k Step.get).map stp).flatten ∧ Below w.heap.size w wr ∧ B ≤ wr.heap.size) := hR
    clear hR
    obtain ⟨t5, d5, rfl⟩ := own_shape HR.out.1
    by_cases hlt : k < many
    · have z1 : (k : Int) < (many : Int) := by omega
      go_wp2_with (at_builtin; go_must (refine wpList_append_own_at _ rfl (.tmp 49) (.tmp 51) 27 rfl B 30 i0 (.agg #[.int .i64 0, .int .i64 0, .int .i64 0, .slice none 0 0]) 4 48 Try.underlying27 HI.out.1 HI.out.2.1 HI.out.2.2.1 HI.out.2.2.2 rfl (by decide) (.slice t5 (n + k) d5) (n + k) _ rfl (HR.out.1.alloc _) ⟨wr.heap.size, 0, none⟩ 1 1 (stp .get) rfl rfl ?c1 ?c2 ?c3 ?c4 ?c5 ?_))
      case c1 => exact two_cells
      case c2 => intro u hu; simp [stp] at hu; rcases hu with rfl | rfl | rfl | rfl <;> rfl
      case c3 => unfold maxLen; omega
      case c4 => omega
      case c5 => have := HR.out.2.2; simp; omega
      intro v1 w3 hown hgrow _ _
      have HE : Hid (w3.ownsRow B 30 4 v1 (n + (k + 1)) ((ss ++ List.replicate (k + 1) Step.get).map stp).flatten ∧ Below w.heap.size w w3 ∧ B ≤ w3.heap.size) := by
        have hgb := own_grown HR.out.1 hgrow HR.out.2.2
        refine ⟨?_, HR.out.2.1.trans (hgb.mono H2.out.2.2.2), Nat.le_trans HR.out.2.2 hgb.size⟩
        rw [List.replicate_succ', ← List.append_assoc, List.map_append, List.flatten_append]
        change w3.ownsRow B 30 4 v1 (n + k + 1) _
        simpa using hown
      clear hown hgrow
      go_wp2_with fail
      go_roundw
      case rel => exact ⟨k + 1, rfl, by omega, HE.out⟩
      case measure => simp [intOf]; omega
    · have z1 : ¬ (k : Int) < (many : Int) := by omega
      obtain rfl : k = many := by omega
      go_wp2_with fail
      refine (run_any (steps_of (Recs.of_own (by decide) (fun r hr => by obtain ⟨s, _, rfl⟩ := List.mem_map.1 hr; exact stp_len s) HR.out.1)) (by simp [HH.out.1]; omega) HH.out.2.1).mono ?_
      rintro e w4 ⟨sv, cl', es', outs', rfl, hr, hrec, hnew, hb⟩
      have hol : outs'.length = n + k := by rw [hr.len]; simp [HH.out.1]
      have hz := HH.out.2.2.1 _ _ _ hr
      obtain ⟨T, hT⟩ : ∃ T, T + 1 = n + k := ⟨n + k - 1, by omega⟩
      rw [← hT] at hol
      obtain ⟨es0, outs0, od, g1, g2, g3, _⟩ := gets_law hr
      have hlast : ∃ E P, outs'[T]? = some (E, P, 0) := by
        have e1 : k = (k - 1) + 1 := by omega
        rw [e1, List.replicate_succ', ← List.append_assoc] at hr
        obtain ⟨_, _, outs1, E, P, q1, _, _, q4⟩ := hr.inv
        have hl1 : outs1.length = T := by have := congrArg List.length q4; simp [hol] at this; omega
        refine ⟨E, P, ?_⟩
        rw [q4, ← hl1, List.getElem?_append_right (Nat.le_refl _), hz]
        simp
      obtain ⟨E, P, hlast⟩ := hlast
      obtain ⟨b9, o9, c9, hsv, lcell⟩ := hrec.at (i := T) (r := sd (E, P, 0)) (by rw [List.getElem?_map, hlast]; rfl)
      subst hsv
      have l4 : w4.cell? ⟨b9, o9 + (n + k - 1) * 5 + 4, none⟩ = some (.bool true) := by rw [show n + k - 1 = T by omega]; exact lcell 4 _ rfl
      have HQ : Hid (Ran (ss ++ List.replicate k Step.get) cl' es' outs' ∧ Recs w4 5 (.slice (some ⟨b9, o9, none⟩) (outs'.map sd).length c9) (outs'.map sd) ∧ Below w.heap.size w w4 ∧ outs'.length = n + k) := ⟨hr, hrec, HR.out.2.1.trans (hb.mono HR.out.2.1.size), hol.trans hT⟩
      rw [List.length_map, hol, hT]
      clear hr hrec hnew hb hz g1 g2 g3 lcell hlast hol hT
      go_wp2_with fail
      obtain ⟨j0, hj, hj0, hj1, hj2⟩ := info_at infoI
      have HJ : Hid (Try.prog.info? 3 = some j0 ∧ j0.zero = some (.int .i64 0) ∧ j0.size = 1 ∧ j0.bytes = 8) := ⟨hj, hj0, hj1, hj2⟩
      obtain ⟨B5, hB5⟩ : ∃ B5, B5 = w4.heap.size := ⟨_, rfl⟩
      have HB5 := Lib.hid hB5
      clear hj hj0 hj1 hj2 l4 hB5
      go_loopw [10, 77] (fun sv iv wr => ∃ (m : Nat), iv = .int .i64 (m : Nat) ∧ m ≤ n + k ∧ Hid (wr.ownsRow B5 3 1 sv (m - n) (((pri (outs'.drop n)).take (m - n)).map (Value.int .i64)) ∧ Below w4.heap.size w4 wr)) (fun _ iv _ => n + k - (intOf iv).toNat)
      case atStart => exact ⟨0, rfl, by omega, by rw [Nat.zero_sub]; exact World.ownsRow_nil _ _ _ _, Below.refl _ _⟩
      case round =>
        obtain ⟨m, rfl, hm, hR⟩ := hrel
        have HR2 : Hid (wr.ownsRow B5 3 1 u10 (m - n) (((pri (outs'.drop n)).take (m - n)).map (Value.int .i64)) ∧ Below w4.heap.size w4 wr) := hR
        clear hR
        obtain ⟨t10, d10, rfl⟩ := own_shape HR2.out.1
        by_cases hlt : m < n + k
        · obtain ⟨x, hx⟩ : ∃ x, outs'[m]? = some x := ⟨_, List.getElem?_eq_getElem (by rw [HQ.out.2.2.2]; exact hlt)⟩
          obtain ⟨x1, x2, x3⟩ := x
          obtain ⟨b', o', c', hsl, mcell⟩ := HQ.out.2.1.at (i := m) (r := sd (x1, x2, x3)) (by rw [List.getElem?_map, hx]; rfl)
          simp only [Value.slice.injEq, Option.some.injEq, Addr.mk.injEq] at hsl
          obtain ⟨⟨rfl, rfl, _⟩, _, rfl⟩ := hsl
          have key : ∀ (a : Addr) (u : Value), w4.cell? a = some u → wr.cell? a = some u := fun a u h => (HR2.out.2.cell (cell_lt' h)).trans h
          have m0 : wr.cell? ⟨b9, o9 + m * 5, none⟩ = some (.bool true) := key _ _ (mcell 0 _ rfl)
          have m1 : wr.cell? ⟨b9, o9 + m * 5 + 1, none⟩ = some (.int .i64 x1) := key _ _ (mcell 1 _ rfl)
          have m2 : wr.cell? ⟨b9, o9 + m * 5 + 2, none⟩ = some (.int .i64 x2) := key _ _ (mcell 2 _ rfl)
          have m3 : wr.cell? ⟨b9, o9 + m * 5 + 3, none⟩ = some (.int .i64 (x3 : Nat)) := key _ _ (mcell 3 _ rfl)
          have m4 : wr.cell? ⟨b9, o9 + m * 5 + 4, none⟩ = some (.bool (decide (x3 = 0))) := key _ _ (mcell 4 _ rfl)
          have HXX := Lib.hid hx
          have z1 : (m : Int) < ((n + k : Nat) : Int) := by omega
          clear key mcell hx
          by_cases hmn : n ≤ m
          · have z2 : (n : Int) ≤ (m : Int) := by omega
            have z3 : decide (n ≤ m) = true := decide_eq_true hmn
            have hB6 : B5 ≤ wr.heap.size := by rw [HB5.out]; exact HR2.out.2.size
            obtain ⟨e, he⟩ : ∃ e, e = m - n := ⟨_, rfl⟩
            have HE0 := Lib.hid he
            rw [← he] at HR2
            have he9 : e ≤ 150 := by omega
            rw [← he]
            clear he
            go_wp2_with (at_builtin; go_must (refine wpList_append_own_at _ rfl (.tmp 88) (.tmp 91) 24 rfl B5 3 j0 (.int .i64 0) 1 8 Try.underlying24 HJ.out.1 HJ.out.2.1 HJ.out.2.2.1 HJ.out.2.2.2 rfl (by decide) (.slice t10 e d10) e _ rfl ((HR2.out.1.alloc _).alloc _) ⟨wr.heap.size + 1, 0, none⟩ 1 1 [.int .i64 x2] rfl rfl ?c1 ?c2 ?c3 ?c4 ?c5 ?_))
            case c1 => exact cells_two
            case c2 => intro u hu; simp at hu; subst hu; rfl
            case c3 => unfold maxLen; omega
            case c4 => omega
            case c5 => simp; omega
            intro v1 w5 hown hgrow _ _
            have HE : Hid (w5.ownsRow B5 3 1 v1 (m + 1 - n) (((pri (outs'.drop n)).take (m + 1 - n)).map (Value.int .i64)) ∧ Below w4.heap.size w4 w5) := by
              have e1 : m + 1 - n = e + 1 := by have := HE0.out; omega
              have e2 : (pri (outs'.drop n))[e]? = some x2 := by
                rw [pri, List.getElem?_map, List.getElem?_drop, show n + e = m by have := HE0.out; omega, HXX.out]; rfl
              refine ⟨?_, ?_⟩
              · rw [e1, List.take_add_one, e2, List.map_append, List.map_take]
                exact hown
              · have h1 := own_grown (HR2.out.1.alloc (.cells (sd (x1, x2, x3)).toArray 39)) hgrow (by simp; omega)
                rw [HB5.out] at h1
                exact HR2.out.2.trans (((Below.refl _ _).alloc HR2.out.2.size _).trans h1)
            clear hown hgrow
            go_wp2_with fail
            go_roundw
            case rel => exact ⟨m + 1, rfl, by omega, HE.out⟩
            case measure => simp [intOf]; omega
          · have z2 : ¬ (n : Int) ≤ (m : Int) := by omega
            have z3 : decide (n ≤ m) = false := decide_eq_false hmn
            have HE : Hid ((wr.alloc (.cells (sd (x1, x2, x3)).toArray 39)).ownsRow B5 3 1 (.slice t10 (m - n) d10) (m + 1 - n) (((pri (outs'.drop n)).take (m + 1 - n)).map (Value.int .i64)) ∧ Below w4.heap.size w4 (wr.alloc (.cells (sd (x1, x2, x3)).toArray 39))) := by
              have e1 : m + 1 - n = m - n := by omega
              rw [e1]
              exact ⟨HR2.out.1.alloc _, HR2.out.2.alloc HR2.out.2.size _⟩
            go_wp2_with fail
            go_roundw
            case rel => exact ⟨m + 1, rfl, by omega, HE.out⟩
            case measure => simp [intOf]; omega
        · have z1 : ¬ (m : Int) < ((n + k : Nat) : Int) := by omega
          have hmk : m = n + k := by omega
          have HMK := Lib.hid hmk
          clear hmk
          go_wp2_with fail
          go_ret2
          refine ⟨_, cl', es', outs', rfl, HQ.out.1, ?_, HQ.out.2.2.1.trans (HR2.out.2.mono HQ.out.2.2.1.size)⟩
          have h := Vals.of_own HR2.out.1
          rw [List.take_of_length_le (by rw [pri, List.length_map, List.length_drop, HQ.out.2.2.2]; have := HMK.out; omega)] at h
          exact h
end FH
end Go.Proofs.Ytalphojbkeleiaa
