/- pop. -/
import Derived.Test.YtmkbgdgfbmfbdaaDoorP2
import Derived.Deep.RegionHeld3
namespace Go.Proofs.YtmkbgdgfbmfbdaaDoor
open Go.RowKit

theorem below_drewN {B : Nat} {w w' : World} (h : Below B w w') (n : Nat) : Below B w (w'.drewN n) := ⟨h.os, h.tape, h.output, h.size, h.block⟩
theorem child_of {c i : Nat} (hc : 0 < c) (h : (c - 1) / 2 = i) : c = 2 * i + 1 ∨ c = 2 * i + 2 := by omega
set_option maxRecDepth 100000 in
set_option maxHeartbeats 4000000 in
theorem pop_any {w : World} {B q g n cp m : Nat} {dup : Bool} {xs : List Item} {y : Item} (hb : QBlk w q (.slice (some ⟨g, 0, none⟩) (n + 1) cp) m dup) (hr : Row B w (.slice (some ⟨g, 0, none⟩) (n + 1) cp) xs) (hh : Heap xs) (hl : xs.length = n + 1) (hn : n ≤ 1000) (hy : xs[0]? = some y) :
    Calls Tryd.prog 49 #[.pointer (some ⟨q, 0, none⟩)] w fun e w' => e = .returned (pit y) ∧ ∃ ys, QBlk w' q (.slice (some ⟨g, 0, none⟩) n cp) m dup ∧ Row B w' (.slice (some ⟨g, 0, none⟩) n cp) ys ∧ Heap ys ∧ (y :: ys).Perm xs ∧ Only [q, g] w w' := by
  have hqg : q ≠ g := by rw [Row, hl] at hr; exact own_ne hb hr
  have hgq : g ≠ q := fun e => hqg e.symm
  have c0 : w.cell? ⟨q, 0, none⟩ = some (.slice (some ⟨g, 0, none⟩) (n + 1) cp) := Blk.cell hb rfl
  obtain ⟨x, hx⟩ : ∃ x, xs[n]? = some x := ⟨_, List.getElem?_eq_getElem (by omega)⟩
  obtain ⟨hd, hpl, hpp⟩ := pop_start hh hl hx hy
  have HB := Lib.hid hb
  have HR := Lib.hid hr
  have HD := Lib.hid hd
  have HP := Lib.hid hpp
  have HPL := Lib.hid hpl
  have HL := Lib.hid hl
  have HX := Lib.hid hx
  have HY := Lib.hid hy
  clear hb hr hd hpp hpl hl hx hy hh
  obtain ⟨y1, y2⟩ := y
  rw [show pit (y1, y2) = .iface 76 (.agg #[.int .i64 y1, .int .i64 y2]) from rfl]
  obtain ⟨y, hyy⟩ : ∃ y : Item, y = (y1, y2) := ⟨_, rfl⟩
  rw [← hyy] at HD HP HPL HY ⊢
  have HYY := Lib.hid hyy
  clear hyy
  have hm : ∀ (l1 l2 : Int) (w : World), (method 226 76 (.agg #[.int .i64 l1, .int .i64 l2]) "Compare").run Tryd.prog w = .ok (67, .agg #[.int .i64 l1, .int .i64 l2]) w := fun _ _ _ => by kernel_rfl
  have z0 : (0 : Int) ≤ (n : Int) := by omega
  have zz : (n : Int) < ((n + 1 : Nat) : Int) := by omega
  have zz1 : (n : Int) < (n : Int) + 1 := by omega
  go_enter Tryd.func49, Tryd.ntmps49
  go_wp2_with fail
  refine (swap_any (j := 0) HB.out HR.out HL.out (by omega) HX.out HY.out).mono ?_
  rintro e w1 ⟨rfl, hb1, hr1, ho1⟩
  have c1 : w1.cell? ⟨q, 0, none⟩ = some (.slice (some ⟨g, 0, none⟩) (n + 1) cp) := Blk.cell hb1 rfl
  have hr1' : w1.ownsRow B 85 1 (.slice (some ⟨g, 0, none⟩) (n + 1) cp) (n + 1) ((swp xs n 0 x y).map pit) := by
    have h := hr1
    rw [Row, swp_len, HL.out] at h
    exact h
  have hlast : (swp xs n 0 x y)[n]? = some y := by
    rw [swp_get HX.out HY.out]
    split
    · rename_i e
      have h1 := HX.out
      have h2 := HY.out
      rw [e] at h1
      rw [h1] at h2
      exact h2
    · rw [if_pos rfl]
  obtain ⟨c2', f2⟩ := own_cell (i := n) (u := pit y) hr1' (by rw [List.getElem?_map, hlast]; rfl)
  have c2 : w1.cell? ⟨g, n, none⟩ = some (.iface 76 (.agg #[.int .i64 y1, .int .i64 y2])) := by rw [c2', HYY.out]; rfl
  have f1 : w1.frozen? ⟨q, 0, none⟩ = false := Blk.free hb1 0
  have hcap : n ≤ cp := by
    obtain ⟨_, h | ⟨g', cap', cur, hv, hge, hh, h2, h3, h4, h5⟩⟩ := hr1'
    · simp at h
    · simp only [Value.slice.injEq] at hv
      obtain ⟨_, _, rfl⟩ := hv
      omega
  have H1 : Hid (QBlk (((w1.setCell ⟨g, n, none⟩ .nilIface).setCell ⟨q, 0, none⟩ (.slice (some ⟨g, 0, none⟩) n cp)).drew) q (.slice (some ⟨g, 0, none⟩) n cp) m dup ∧ Row B (((w1.setCell ⟨g, n, none⟩ .nilIface).setCell ⟨q, 0, none⟩ (.slice (some ⟨g, 0, none⟩) n cp)).drew) (.slice (some ⟨g, 0, none⟩) n cp) ((swp xs n 0 x y).take n) ∧ Only [q, g] w (((w1.setCell ⟨g, n, none⟩ .nilIface).setCell ⟨q, 0, none⟩ (.slice (some ⟨g, 0, none⟩) n cp)).drew)) := by
    refine ⟨?_, ?_, ?_⟩
    · have h := Blk.set (Blk.other hb1 (a := ⟨g, n, none⟩) hgq .nilIface) 0 (.slice (some ⟨g, 0, none⟩) n cp)
      exact h
    · rw [Row, HPL.out, List.map_take]
      have h := own_other (own_take (own_set hr1' (i := n) (u := .nilIface) (by omega)) (m := n) (by omega)) hqg (.slice (some ⟨g, 0, none⟩) n cp)
      rw [List.take_set_of_le (Nat.le_refl _)] at h
      exact h
    · exact (((ho1.mono (fun k _ hk => by simp at hk ⊢; exact Or.inr hk)).setCell (Or.inl (by simp)) _).setCell (Or.inl (by simp)) _).drew
  clear hb1 hr1 ho1 hr1' hlast c2' c0
  go_wp2_with fail
  go_region
  go_wp2_with fail
  go_loopw [5, 6, 7] (fun iv lv rv wr => ∃ (ys : List Item) (i l r : Nat), iv = .int .i64 (i : Nat) ∧ lv = .int .i64 (l : Nat) ∧ rv = .int .i64 (r : Nat) ∧ i ≤ n ∧ l = 2 * i + 1 ∧ r = 2 * i + 2 ∧ Hid (QBlk wr q (.slice (some ⟨g, 0, none⟩) n cp) m dup ∧ Row B wr (.slice (some ⟨g, 0, none⟩) n cp) ys ∧ Only [q, g] w wr ∧ HeapDown ys i ∧ ys.length = n ∧ (y :: ys).Perm xs)) (fun iv _ _ _ => n - (intOf iv).toNat)
  case atStart => exact ⟨_, 0, 1, 2, rfl, rfl, rfl, by omega, rfl, rfl, H1.out.1, H1.out.2.1, H1.out.2.2, HD.out, HPL.out, HP.out⟩
  case round =>
    obtain ⟨ys, i, l, r, rfl, rfl, rfl, hin, hle, hre, hR⟩ := hrel
    have HR3 : Hid (QBlk wr q (.slice (some ⟨g, 0, none⟩) n cp) m dup ∧ Row B wr (.slice (some ⟨g, 0, none⟩) n cp) ys ∧ Only [q, g] w wr ∧ HeapDown ys i ∧ ys.length = n ∧ (y :: ys).Perm xs) := hR
    clear hR
    have HLE := Lib.hid hle
    have HRE := Lib.hid hre
    have HN := Lib.hid HR3.out.2.2.2.2.1
    by_cases hln : l < n
    · have zl1 : (0 : Int) ≤ (l : Int) := by omega
      have zl2 : (l : Int) < (n : Int) := by omega
      obtain ⟨⟨t1, t2⟩, ht⟩ : ∃ t, ys[i]? = some t := ⟨_, List.getElem?_eq_getElem (by rw [HN.out]; omega)⟩
      obtain ⟨⟨a1, a2⟩, ha⟩ : ∃ t, ys[l]? = some t := ⟨_, List.getElem?_eq_getElem (by rw [HN.out]; omega)⟩
      have Ht := Lib.hid ht
      have Ha := Lib.hid ha
      clear ht ha
      by_cases hrn : r < n
      · have zr1 : (0 : Int) ≤ (r : Int) := by omega
        have zr2 : (r : Int) < (n : Int) := by omega
        obtain ⟨⟨b1, b2⟩, hb⟩ : ∃ t, ys[r]? = some t := ⟨_, List.getElem?_eq_getElem (by rw [HN.out]; omega)⟩
        have Hb := Lib.hid hb
        clear hb
        clear hle hre
        have hrow : wr.ownsRow B 85 1 (.slice (some ⟨g, 0, none⟩) n cp) n (ys.map pit) := by have h := HR3.out.2.1; rw [Row, HN.out] at h; exact h
        have cq : wr.cell? ⟨q, 0, none⟩ = some (.slice (some ⟨g, 0, none⟩) n cp) := Blk.cell HR3.out.1 rfl
        have ct : wr.cell? ⟨g, i, none⟩ = some (.iface 76 (.agg #[.int .i64 t1, .int .i64 t2])) := (own_cell (i := i) (u := pit (t1, t2)) hrow (by rw [List.getElem?_map, Ht.out]; rfl)).1
        have ca : wr.cell? ⟨g, l, none⟩ = some (.iface 76 (.agg #[.int .i64 a1, .int .i64 a2])) := (own_cell (i := l) (u := pit (a1, a2)) hrow (by rw [List.getElem?_map, Ha.out]; rfl)).1
        have cb : wr.cell? ⟨g, r, none⟩ = some (.iface 76 (.agg #[.int .i64 b1, .int .i64 b2])) := (own_cell (i := r) (u := pit (b1, b2)) hrow (by rw [List.getElem?_map, Hb.out]; rfl)).1
        clear hrow
        by_cases hba : b1 < a1
        · have e1 : ord b1 a1 = -1 := by unfold ord; rw [if_pos hba]
          have hcmq : ∀ w : World, Calls Tryd.prog 67 #[(.agg #[.int .i64 b1, .int .i64 b2]), (.iface 76 (.agg #[.int .i64 a1, .int .i64 a2]))] w fun e w' => e = .returned (.int .i64 (-1)) ∧ Below w.heap.size w w' := fun w => by rw [← e1]; exact compare_any (b1, b2) (a1, a2) w
          clear e1
          have hmin : Hid (∀ d, 0 < d → d < ys.length → (d - 1) / 2 = i → b1 ≤ kat ys d) := Lib.hid fun d d1 d2 d3 => by
            have h1 := HLE.out
            have h2 := HRE.out
            have h3 := HN.out
            rcases child_of d1 d3 with e | e
            · rw [show d = l by omega, kat_of Ha.out]
              show b1 ≤ a1
              omega
            · rw [show d = r by omega, kat_of Hb.out]
              exact Int.le_refl _
          go_wp2_with fail
          have hS0 : Hid (∀ W', Below wr.heap.size wr W' → W'.cell? ⟨q, 0, none⟩ = some (.slice (some ⟨g, 0, none⟩) n cp) ∧ W'.cell? ⟨g, l, none⟩ = some (.iface 76 (.agg #[.int .i64 a1, .int .i64 a2])) ∧ W'.cell? ⟨g, r, none⟩ = some (.iface 76 (.agg #[.int .i64 b1, .int .i64 b2]))) := Lib.hid fun W' hb => ⟨(hb.cell (cell_lt' cq)).trans cq, (hb.cell (cell_lt' ca)).trans ca, (hb.cell (cell_lt' cb)).trans cb⟩
          go_region_held3 (fun w' => w'.cell? ⟨q, 0, none⟩ = some (.slice (some ⟨g, 0, none⟩) n cp) ∧ w'.cell? ⟨g, l, none⟩ = some (.iface 76 (.agg #[.int .i64 a1, .int .i64 a2])) ∧ w'.cell? ⟨g, r, none⟩ = some (.iface 76 (.agg #[.int .i64 b1, .int .i64 b2])))
            (first | exact ⟨cq, ca, cb⟩ | exact hS0.out _ G4.out)
            (first | (go_at_call 67; refine (hcmq _).mono ?_; rintro e w4 ⟨rfl, hb4⟩; have G4 : Hid (Below wr.heap.size wr w4) := Lib.hid ((Below.refl _ _).drew.trans hb4); clear hb4))
          have hb4 := G4.out
          have HR7 : Hid (QBlk w4 q (.slice (some ⟨g, 0, none⟩) n cp) m dup ∧ Row B w4 (.slice (some ⟨g, 0, none⟩) n cp) ys ∧ Only [q, g] w w4) := ⟨HR3.out.1.below hb4, Row.below HR3.out.2.1 hb4, HR3.out.2.2.1.trans (Only.of_below hb4)⟩
          clear hb4 G4 hS0 cq ct ca cb
          have hrow : w4.ownsRow B 85 1 (.slice (some ⟨g, 0, none⟩) n cp) n (ys.map pit) := by have h := HR7.out.2.1; rw [Row, HN.out] at h; exact h
          have cq : w4.cell? ⟨q, 0, none⟩ = some (.slice (some ⟨g, 0, none⟩) n cp) := Blk.cell HR7.out.1 rfl
          have ct : w4.cell? ⟨g, i, none⟩ = some (.iface 76 (.agg #[.int .i64 t1, .int .i64 t2])) := (own_cell (i := i) (u := pit (t1, t2)) hrow (by rw [List.getElem?_map, Ht.out]; rfl)).1
          have cb : w4.cell? ⟨g, r, none⟩ = some (.iface 76 (.agg #[.int .i64 b1, .int .i64 b2])) := (own_cell (i := r) (u := pit (b1, b2)) hrow (by rw [List.getElem?_map, Hb.out]; rfl)).1
          clear hrow
          go_wp2_with fail
          have zi0 : (0 : Int) ≤ (i : Int) := by omega
          have zi1 : (0 : Int) ≤ (r : Int) := by omega
          have zi2 : (r : Int) < (n : Int) := by omega
          have zi3 : (i : Int) < (n : Int) := by have := HLE.out; omega
          have hS : Hid (∀ W', Below w4.heap.size w4 W' → W'.cell? ⟨q, 0, none⟩ = some (.slice (some ⟨g, 0, none⟩) n cp) ∧ W'.cell? ⟨g, i, none⟩ = some (.iface 76 (.agg #[.int .i64 t1, .int .i64 t2])) ∧ W'.cell? ⟨g, r, none⟩ = some (.iface 76 (.agg #[.int .i64 b1, .int .i64 b2]))) := Lib.hid fun W' hb => ⟨(hb.cell (cell_lt' cq)).trans cq, (hb.cell (cell_lt' ct)).trans ct, (hb.cell (cell_lt' cb)).trans cb⟩
          by_cases hsw : b1 < t1
          · have e1 : ord b1 t1 = -1 := by unfold ord; rw [if_pos hsw]
            have hcmp : ∀ w : World, Calls Tryd.prog 67 #[(.agg #[.int .i64 b1, .int .i64 b2]), (.iface 76 (.agg #[.int .i64 t1, .int .i64 t2]))] w fun e w' => e = .returned (.int .i64 (-1)) ∧ Below w.heap.size w w' := fun w => by rw [← e1]; exact compare_any (b1, b2) (t1, t2) w
            clear e1
            go_region_held3 (fun w' => w'.cell? ⟨q, 0, none⟩ = some (.slice (some ⟨g, 0, none⟩) n cp) ∧ w'.cell? ⟨g, i, none⟩ = some (.iface 76 (.agg #[.int .i64 t1, .int .i64 t2])) ∧ w'.cell? ⟨g, r, none⟩ = some (.iface 76 (.agg #[.int .i64 b1, .int .i64 b2])))
              (first | exact ⟨cq, ct, cb⟩ | exact hS.out _ G5.out)
              (first | (go_at_call 67; refine (hcmp _).mono ?_; rintro e w5 ⟨rfl, hb5⟩; have G5 : Hid (Below w4.heap.size w4 w5) := Lib.hid (by first | exact (Below.refl _ _).drew.trans hb5 | exact (below_drewN (Below.refl _ _) _).trans hb5); clear hb5))
            go_wp2_with fail
            have HR4 : Hid (QBlk w5 q (.slice (some ⟨g, 0, none⟩) n cp) m dup ∧ Row B w5 (.slice (some ⟨g, 0, none⟩) n cp) ys ∧ Only [q, g] w w5) := ⟨HR7.out.1.below G5.out, Row.below HR7.out.2.1 G5.out, HR7.out.2.2.trans (Only.of_below G5.out)⟩
            refine (swap_any HR4.out.1 HR4.out.2.1 HN.out (by omega) Ht.out Hb.out).mono ?_
            rintro e w6 ⟨rfl, h1, h2, h3⟩
            have HE : Hid (QBlk w6 q (.slice (some ⟨g, 0, none⟩) n cp) m dup ∧ Row B w6 (.slice (some ⟨g, 0, none⟩) n cp) (swp ys i r (t1, t2) (b1, b2)) ∧ Only [q, g] w w6 ∧ HeapDown (swp ys i r (t1, t2) (b1, b2)) r ∧ (swp ys i r (t1, t2) (b1, b2)).length = n ∧ (y :: swp ys i r (t1, t2) (b1, b2)).Perm xs) := by
              have hci := HRE.out
              refine ⟨h1, h2, HR4.out.2.2.trans (h3.mono (fun k _ hk => by simp at hk ⊢; exact Or.inr hk)), HR3.out.2.2.2.1.swap (by omega) (by omega) Ht.out Hb.out hsw (fun d d1 d2 d3 => ?_), by rw [swp_len]; exact HN.out, ((perm_swp Ht.out Hb.out).cons y).trans HR3.out.2.2.2.2.2⟩
              exact hmin.out d d1 d2 d3
            clear h1 h2 h3
            go_wp2_with fail
            go_roundw
            case rel => exact ⟨_, r, 2 * r + 1, 2 * r + 2, rfl, by simp, by simp, by omega, rfl, rfl, HE.out⟩
            case measure =>
              simp [intOf]
              have := HRE.out
              omega
          · have d1 : decide (ord b1 t1 < 0) = false := by
              unfold ord
              rw [if_neg hsw]
              split <;> rfl
            have hcmp : ∀ w : World, Calls Tryd.prog 67 #[(.agg #[.int .i64 b1, .int .i64 b2]), (.iface 76 (.agg #[.int .i64 t1, .int .i64 t2]))] w fun e w' => e = .returned (.int .i64 (ord b1 t1)) ∧ Below w.heap.size w w' := fun w => compare_any (b1, b2) (t1, t2) w
            have d2 : ¬ ord b1 t1 < 0 := of_decide_eq_false d1
            generalize ord b1 t1 = k at d1 d2 hcmp
            go_region_held3 (fun w' => w'.cell? ⟨q, 0, none⟩ = some (.slice (some ⟨g, 0, none⟩) n cp) ∧ w'.cell? ⟨g, i, none⟩ = some (.iface 76 (.agg #[.int .i64 t1, .int .i64 t2])) ∧ w'.cell? ⟨g, r, none⟩ = some (.iface 76 (.agg #[.int .i64 b1, .int .i64 b2])))
              (first | exact ⟨cq, ct, cb⟩ | exact hS.out _ G5.out)
              (first | (go_at_call 67; refine (hcmp _).mono ?_; rintro e w5 ⟨rfl, hb5⟩; have G5 : Hid (Below w4.heap.size w4 w5) := Lib.hid (by first | exact (Below.refl _ _).drew.trans hb5 | exact (below_drewN (Below.refl _ _) _).trans hb5); clear hb5))
            go_wp2_with fail
            go_ret
            refine ⟨rfl, ys, HR7.out.1.below G5.out, Row.below HR7.out.2.1 G5.out, HR3.out.2.2.2.1.done (fun d d1 d2 d3 => ?_), HR3.out.2.2.2.2.2, HR7.out.2.2.trans (Only.of_below G5.out)⟩
            have := hmin.out d d1 d2 d3
            rw [kat_of Ht.out]
            show t1 ≤ _
            omega
        · have d1 : decide (ord b1 a1 < 0) = false := by
            unfold ord
            rw [if_neg hba]
            split <;> rfl
          have hcmq : ∀ w : World, Calls Tryd.prog 67 #[(.agg #[.int .i64 b1, .int .i64 b2]), (.iface 76 (.agg #[.int .i64 a1, .int .i64 a2]))] w fun e w' => e = .returned (.int .i64 (ord b1 a1)) ∧ Below w.heap.size w w' := fun w => compare_any (b1, b2) (a1, a2) w
          have d2 : ¬ ord b1 a1 < 0 := of_decide_eq_false d1
          generalize ord b1 a1 = k0 at d1 d2 hcmq
          have hmin : Hid (∀ d, 0 < d → d < ys.length → (d - 1) / 2 = i → a1 ≤ kat ys d) := Lib.hid fun d d1 d2 d3 => by
            have h1 := HLE.out
            have h2 := HRE.out
            have h3 := HN.out
            rcases child_of d1 d3 with e | e
            · rw [show d = l by omega, kat_of Ha.out]
              exact Int.le_refl _
            · rw [show d = r by omega, kat_of Hb.out]
              show a1 ≤ b1
              omega
          go_wp2_with fail
          have hS0 : Hid (∀ W', Below wr.heap.size wr W' → W'.cell? ⟨q, 0, none⟩ = some (.slice (some ⟨g, 0, none⟩) n cp) ∧ W'.cell? ⟨g, l, none⟩ = some (.iface 76 (.agg #[.int .i64 a1, .int .i64 a2])) ∧ W'.cell? ⟨g, r, none⟩ = some (.iface 76 (.agg #[.int .i64 b1, .int .i64 b2]))) := Lib.hid fun W' hb => ⟨(hb.cell (cell_lt' cq)).trans cq, (hb.cell (cell_lt' ca)).trans ca, (hb.cell (cell_lt' cb)).trans cb⟩
          go_region_held3 (fun w' => w'.cell? ⟨q, 0, none⟩ = some (.slice (some ⟨g, 0, none⟩) n cp) ∧ w'.cell? ⟨g, l, none⟩ = some (.iface 76 (.agg #[.int .i64 a1, .int .i64 a2])) ∧ w'.cell? ⟨g, r, none⟩ = some (.iface 76 (.agg #[.int .i64 b1, .int .i64 b2])))
            (first | exact ⟨cq, ca, cb⟩ | exact hS0.out _ G4.out)
            (first | (go_at_call 67; refine (hcmq _).mono ?_; rintro e w4 ⟨rfl, hb4⟩; have G4 : Hid (Below wr.heap.size wr w4) := Lib.hid ((Below.refl _ _).drew.trans hb4); clear hb4))
          have hb4 := G4.out
          have HR7 : Hid (QBlk w4 q (.slice (some ⟨g, 0, none⟩) n cp) m dup ∧ Row B w4 (.slice (some ⟨g, 0, none⟩) n cp) ys ∧ Only [q, g] w w4) := ⟨HR3.out.1.below hb4, Row.below HR3.out.2.1 hb4, HR3.out.2.2.1.trans (Only.of_below hb4)⟩
          clear hb4 G4 hS0 cq ct ca cb
          have hrow : w4.ownsRow B 85 1 (.slice (some ⟨g, 0, none⟩) n cp) n (ys.map pit) := by have h := HR7.out.2.1; rw [Row, HN.out] at h; exact h
          have cq : w4.cell? ⟨q, 0, none⟩ = some (.slice (some ⟨g, 0, none⟩) n cp) := Blk.cell HR7.out.1 rfl
          have ct : w4.cell? ⟨g, i, none⟩ = some (.iface 76 (.agg #[.int .i64 t1, .int .i64 t2])) := (own_cell (i := i) (u := pit (t1, t2)) hrow (by rw [List.getElem?_map, Ht.out]; rfl)).1
          have ca : w4.cell? ⟨g, l, none⟩ = some (.iface 76 (.agg #[.int .i64 a1, .int .i64 a2])) := (own_cell (i := l) (u := pit (a1, a2)) hrow (by rw [List.getElem?_map, Ha.out]; rfl)).1
          clear hrow
          go_wp2_with fail
          clear d1 d2 hcmq
          have zi0 : (0 : Int) ≤ (i : Int) := by omega
          have zi1 : (0 : Int) ≤ (l : Int) := by omega
          have zi2 : (l : Int) < (n : Int) := by omega
          have zi3 : (i : Int) < (n : Int) := by have := HLE.out; omega
          have hS : Hid (∀ W', Below w4.heap.size w4 W' → W'.cell? ⟨q, 0, none⟩ = some (.slice (some ⟨g, 0, none⟩) n cp) ∧ W'.cell? ⟨g, i, none⟩ = some (.iface 76 (.agg #[.int .i64 t1, .int .i64 t2])) ∧ W'.cell? ⟨g, l, none⟩ = some (.iface 76 (.agg #[.int .i64 a1, .int .i64 a2]))) := Lib.hid fun W' hb => ⟨(hb.cell (cell_lt' cq)).trans cq, (hb.cell (cell_lt' ct)).trans ct, (hb.cell (cell_lt' ca)).trans ca⟩
          by_cases hsw : a1 < t1
          · have e1 : ord a1 t1 = -1 := by unfold ord; rw [if_pos hsw]
            have hcmp : ∀ w : World, Calls Tryd.prog 67 #[(.agg #[.int .i64 a1, .int .i64 a2]), (.iface 76 (.agg #[.int .i64 t1, .int .i64 t2]))] w fun e w' => e = .returned (.int .i64 (-1)) ∧ Below w.heap.size w w' := fun w => by rw [← e1]; exact compare_any (a1, a2) (t1, t2) w
            clear e1
            go_region_held3 (fun w' => w'.cell? ⟨q, 0, none⟩ = some (.slice (some ⟨g, 0, none⟩) n cp) ∧ w'.cell? ⟨g, i, none⟩ = some (.iface 76 (.agg #[.int .i64 t1, .int .i64 t2])) ∧ w'.cell? ⟨g, l, none⟩ = some (.iface 76 (.agg #[.int .i64 a1, .int .i64 a2])))
              (first | exact ⟨cq, ct, ca⟩ | exact hS.out _ G5.out)
              (first | (go_at_call 67; refine (hcmp _).mono ?_; rintro e w5 ⟨rfl, hb5⟩; have G5 : Hid (Below w4.heap.size w4 w5) := Lib.hid (by first | exact (Below.refl _ _).drew.trans hb5 | exact (below_drewN (Below.refl _ _) _).trans hb5); clear hb5))
            go_wp2_with fail
            have HR4 : Hid (QBlk w5 q (.slice (some ⟨g, 0, none⟩) n cp) m dup ∧ Row B w5 (.slice (some ⟨g, 0, none⟩) n cp) ys ∧ Only [q, g] w w5) := ⟨HR7.out.1.below G5.out, Row.below HR7.out.2.1 G5.out, HR7.out.2.2.trans (Only.of_below G5.out)⟩
            refine (swap_any HR4.out.1 HR4.out.2.1 HN.out (by omega) Ht.out Ha.out).mono ?_
            rintro e w6 ⟨rfl, h1, h2, h3⟩
            have HE : Hid (QBlk w6 q (.slice (some ⟨g, 0, none⟩) n cp) m dup ∧ Row B w6 (.slice (some ⟨g, 0, none⟩) n cp) (swp ys i l (t1, t2) (a1, a2)) ∧ Only [q, g] w w6 ∧ HeapDown (swp ys i l (t1, t2) (a1, a2)) l ∧ (swp ys i l (t1, t2) (a1, a2)).length = n ∧ (y :: swp ys i l (t1, t2) (a1, a2)).Perm xs) := by
              have hci := HLE.out
              refine ⟨h1, h2, HR4.out.2.2.trans (h3.mono (fun k _ hk => by simp at hk ⊢; exact Or.inr hk)), HR3.out.2.2.2.1.swap (by omega) (by omega) Ht.out Ha.out hsw (fun d d1 d2 d3 => ?_), by rw [swp_len]; exact HN.out, ((perm_swp Ht.out Ha.out).cons y).trans HR3.out.2.2.2.2.2⟩
              exact hmin.out d d1 d2 d3
            clear h1 h2 h3
            go_wp2_with fail
            go_roundw
            case rel => exact ⟨_, l, 2 * l + 1, 2 * l + 2, rfl, by simp, by simp, by omega, rfl, rfl, HE.out⟩
            case measure =>
              simp [intOf]
              have := HLE.out
              omega
          · have d1 : decide (ord a1 t1 < 0) = false := by
              unfold ord
              rw [if_neg hsw]
              split <;> rfl
            have hcmp : ∀ w : World, Calls Tryd.prog 67 #[(.agg #[.int .i64 a1, .int .i64 a2]), (.iface 76 (.agg #[.int .i64 t1, .int .i64 t2]))] w fun e w' => e = .returned (.int .i64 (ord a1 t1)) ∧ Below w.heap.size w w' := fun w => compare_any (a1, a2) (t1, t2) w
            have d2 : ¬ ord a1 t1 < 0 := of_decide_eq_false d1
            generalize ord a1 t1 = k at d1 d2 hcmp
            go_region_held3 (fun w' => w'.cell? ⟨q, 0, none⟩ = some (.slice (some ⟨g, 0, none⟩) n cp) ∧ w'.cell? ⟨g, i, none⟩ = some (.iface 76 (.agg #[.int .i64 t1, .int .i64 t2])) ∧ w'.cell? ⟨g, l, none⟩ = some (.iface 76 (.agg #[.int .i64 a1, .int .i64 a2])))
              (first | exact ⟨cq, ct, ca⟩ | exact hS.out _ G5.out)
              (first | (go_at_call 67; refine (hcmp _).mono ?_; rintro e w5 ⟨rfl, hb5⟩; have G5 : Hid (Below w4.heap.size w4 w5) := Lib.hid (by first | exact (Below.refl _ _).drew.trans hb5 | exact (below_drewN (Below.refl _ _) _).trans hb5); clear hb5))
            go_wp2_with fail
            go_ret
            refine ⟨rfl, ys, HR7.out.1.below G5.out, Row.below HR7.out.2.1 G5.out, HR3.out.2.2.2.1.done (fun d d1 d2 d3 => ?_), HR3.out.2.2.2.2.2, HR7.out.2.2.trans (Only.of_below G5.out)⟩
            have := hmin.out d d1 d2 d3
            rw [kat_of Ht.out]
            show t1 ≤ _
            omega
      · have zr : ¬ (r : Int) < (n : Int) := by omega
        clear hle hre
        have hrow : wr.ownsRow B 85 1 (.slice (some ⟨g, 0, none⟩) n cp) n (ys.map pit) := by have h := HR3.out.2.1; rw [Row, HN.out] at h; exact h
        have cq : wr.cell? ⟨q, 0, none⟩ = some (.slice (some ⟨g, 0, none⟩) n cp) := Blk.cell HR3.out.1 rfl
        have ct : wr.cell? ⟨g, i, none⟩ = some (.iface 76 (.agg #[.int .i64 t1, .int .i64 t2])) := (own_cell (i := i) (u := pit (t1, t2)) hrow (by rw [List.getElem?_map, Ht.out]; rfl)).1
        have ca : wr.cell? ⟨g, l, none⟩ = some (.iface 76 (.agg #[.int .i64 a1, .int .i64 a2])) := (own_cell (i := l) (u := pit (a1, a2)) hrow (by rw [List.getElem?_map, Ha.out]; rfl)).1
        clear hrow
        go_wp2_with fail
        go_quiet (fail)
        go_wp2_with fail
        have hmin : Hid (∀ d, 0 < d → d < ys.length → (d - 1) / 2 = i → a1 ≤ kat ys d) := Lib.hid fun d d1 d2 d3 => by
          have h1 := HLE.out
          have h2 := HRE.out
          have h3 := HN.out
          have e : d = l := by omega
          rw [e, kat_of Ha.out]
          exact Int.le_refl _
        have zi0 : (0 : Int) ≤ (i : Int) := by omega
        have zi1 : (0 : Int) ≤ (l : Int) := by omega
        have zi2 : (l : Int) < (n : Int) := by omega
        have zi3 : (i : Int) < (n : Int) := by have := HLE.out; omega
        have hS : Hid (∀ W', Below wr.heap.size wr W' → W'.cell? ⟨q, 0, none⟩ = some (.slice (some ⟨g, 0, none⟩) n cp) ∧ W'.cell? ⟨g, i, none⟩ = some (.iface 76 (.agg #[.int .i64 t1, .int .i64 t2])) ∧ W'.cell? ⟨g, l, none⟩ = some (.iface 76 (.agg #[.int .i64 a1, .int .i64 a2]))) := Lib.hid fun W' hb => ⟨(hb.cell (cell_lt' cq)).trans cq, (hb.cell (cell_lt' ct)).trans ct, (hb.cell (cell_lt' ca)).trans ca⟩
        by_cases hsw : a1 < t1
        · have e1 : ord a1 t1 = -1 := by unfold ord; rw [if_pos hsw]
          have hcmp : ∀ w : World, Calls Tryd.prog 67 #[(.agg #[.int .i64 a1, .int .i64 a2]), (.iface 76 (.agg #[.int .i64 t1, .int .i64 t2]))] w fun e w' => e = .returned (.int .i64 (-1)) ∧ Below w.heap.size w w' := fun w => by rw [← e1]; exact compare_any (a1, a2) (t1, t2) w
          clear e1
          go_region_held3 (fun w' => w'.cell? ⟨q, 0, none⟩ = some (.slice (some ⟨g, 0, none⟩) n cp) ∧ w'.cell? ⟨g, i, none⟩ = some (.iface 76 (.agg #[.int .i64 t1, .int .i64 t2])) ∧ w'.cell? ⟨g, l, none⟩ = some (.iface 76 (.agg #[.int .i64 a1, .int .i64 a2])))
            (first | exact ⟨cq, ct, ca⟩ | exact hS.out _ G5.out)
            (first | (go_at_call 67; refine (hcmp _).mono ?_; rintro e w5 ⟨rfl, hb5⟩; have G5 : Hid (Below wr.heap.size wr w5) := Lib.hid (by first | exact (Below.refl _ _).drew.trans hb5 | exact (below_drewN (Below.refl _ _) _).trans hb5); clear hb5))
          go_wp2_with fail
          have HR4 : Hid (QBlk w5 q (.slice (some ⟨g, 0, none⟩) n cp) m dup ∧ Row B w5 (.slice (some ⟨g, 0, none⟩) n cp) ys ∧ Only [q, g] w w5) := ⟨HR3.out.1.below G5.out, Row.below HR3.out.2.1 G5.out, HR3.out.2.2.1.trans (Only.of_below G5.out)⟩
          refine (swap_any HR4.out.1 HR4.out.2.1 HN.out (by omega) Ht.out Ha.out).mono ?_
          rintro e w6 ⟨rfl, h1, h2, h3⟩
          have HE : Hid (QBlk w6 q (.slice (some ⟨g, 0, none⟩) n cp) m dup ∧ Row B w6 (.slice (some ⟨g, 0, none⟩) n cp) (swp ys i l (t1, t2) (a1, a2)) ∧ Only [q, g] w w6 ∧ HeapDown (swp ys i l (t1, t2) (a1, a2)) l ∧ (swp ys i l (t1, t2) (a1, a2)).length = n ∧ (y :: swp ys i l (t1, t2) (a1, a2)).Perm xs) := by
            have hci := HLE.out
            refine ⟨h1, h2, HR4.out.2.2.trans (h3.mono (fun k _ hk => by simp at hk ⊢; exact Or.inr hk)), HR3.out.2.2.2.1.swap (by omega) (by omega) Ht.out Ha.out hsw (fun d d1 d2 d3 => ?_), by rw [swp_len]; exact HN.out, ((perm_swp Ht.out Ha.out).cons y).trans HR3.out.2.2.2.2.2⟩
            exact hmin.out d d1 d2 d3
          clear h1 h2 h3
          go_wp2_with fail
          go_roundw
          case rel => exact ⟨_, l, 2 * l + 1, 2 * l + 2, rfl, by simp, by simp, by omega, rfl, rfl, HE.out⟩
          case measure =>
            simp [intOf]
            have := HLE.out
            omega
        · have d1 : decide (ord a1 t1 < 0) = false := by
            unfold ord
            rw [if_neg hsw]
            split <;> rfl
          have hcmp : ∀ w : World, Calls Tryd.prog 67 #[(.agg #[.int .i64 a1, .int .i64 a2]), (.iface 76 (.agg #[.int .i64 t1, .int .i64 t2]))] w fun e w' => e = .returned (.int .i64 (ord a1 t1)) ∧ Below w.heap.size w w' := fun w => compare_any (a1, a2) (t1, t2) w
          have d2 : ¬ ord a1 t1 < 0 := of_decide_eq_false d1
          generalize ord a1 t1 = k at d1 d2 hcmp
          go_region_held3 (fun w' => w'.cell? ⟨q, 0, none⟩ = some (.slice (some ⟨g, 0, none⟩) n cp) ∧ w'.cell? ⟨g, i, none⟩ = some (.iface 76 (.agg #[.int .i64 t1, .int .i64 t2])) ∧ w'.cell? ⟨g, l, none⟩ = some (.iface 76 (.agg #[.int .i64 a1, .int .i64 a2])))
            (first | exact ⟨cq, ct, ca⟩ | exact hS.out _ G5.out)
            (first | (go_at_call 67; refine (hcmp _).mono ?_; rintro e w5 ⟨rfl, hb5⟩; have G5 : Hid (Below wr.heap.size wr w5) := Lib.hid (by first | exact (Below.refl _ _).drew.trans hb5 | exact (below_drewN (Below.refl _ _) _).trans hb5); clear hb5))
          go_wp2_with fail
          go_ret
          refine ⟨rfl, ys, HR3.out.1.below G5.out, Row.below HR3.out.2.1 G5.out, HR3.out.2.2.2.1.done (fun d d1 d2 d3 => ?_), HR3.out.2.2.2.2.2, HR3.out.2.2.1.trans (Only.of_below G5.out)⟩
          have := hmin.out d d1 d2 d3
          rw [kat_of Ht.out]
          show t1 ≤ _
          omega
    · have zl : ¬ (l : Int) < (n : Int) := by omega
      clear hle hre
      have cq : wr.cell? ⟨q, 0, none⟩ = some (.slice (some ⟨g, 0, none⟩) n cp) := Blk.cell HR3.out.1 rfl
      go_wp2_with fail
      go_ret
      refine ⟨rfl, HR3.out.1, ys, HR3.out.2.1, HR3.out.2.2.2.1.done (fun c h1 h2 h3 => ?_), HR3.out.2.2.2.2.2, HR3.out.2.2.1⟩
      have := HLE.out
      have := HN.out
      omega
end Go.Proofs.YtmkbgdgfbmfbdaaDoor
