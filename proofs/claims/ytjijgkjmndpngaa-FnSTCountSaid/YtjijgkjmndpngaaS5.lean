/- impl.STRun with one step. -/
import Derived.Test.YtjijgkjmndpngaaS4
import Derived.Test.YtjijgkjmndpngaaStepKit
import Derived.LoopN
import Derived.Deep.RegionHeldLaw
import Derived.Deep.RegionHeld3
import Derived.Deep.DeepCutAuto
import Derived.Deep.CutRange
namespace Go.Proofs.Ytjijgkjmndpngaa
open Go.RowKit

set_option maxRecDepth 100000 in
set_option maxHeartbeats 4000000 in
theorem run_rem {w : World} {sl it : Value} {xs ys : List Int} {sb cst : Nat} (h1 : Ints w sl xs) (h2 : Ints w it ys) (hl1 : xs.length ≤ 100) (hl2 : ys.length ≤ 100) (c0 : w.cell? ⟨sb, 0, none⟩ = some (.int .i64 2)) (c1 : w.cell? ⟨sb, 1, none⟩ = some it) :
    Calls Try.prog 7 #[sl, .slice (some ⟨sb, 0, none⟩) 1 cst] w fun e w' => RunSaid w e w' (remL (insL [] xs) ys) (fun L => ys.all fun y => decide (y ∈ mkeys L)) := by
  have H1 := Lib.hid h1
  have H2 := Lib.hid h2
  have C0 := Lib.hid c0
  have C1 := Lib.hid c1
  obtain ⟨i3, hi3, hy1, hy2, hy3⟩ := info_at info3
  have HI3 : Hid (Try.prog.info? 3 = some i3 ∧ i3.zero = some (.int .i64 0) ∧ i3.size = 1 ∧ i3.bytes = 8) := ⟨hi3, hy1, hy2, hy3⟩
  clear hi3 hy1 hy2 hy3
  obtain ⟨i4, hi4, hy1, hy2, hy3⟩ := info_at infoB
  have HI4 : Hid (Try.prog.info? 4 = some i4 ∧ i4.zero = some (.bool false) ∧ i4.size = 1 ∧ i4.bytes = 1) := ⟨hi4, hy1, hy2, hy3⟩
  clear hi4 hy1 hy2 hy3
  obtain ⟨so1, cp1, rfl⟩ := h1.shape
  obtain ⟨so2, cp2, rfl⟩ := h2.shape
  obtain ⟨n1, hn1⟩ : ∃ n, n = (xs.map (Value.int .i64)).length := ⟨_, rfl⟩
  obtain ⟨n2, hn2⟩ : ∃ n, n = (ys.map (Value.int .i64)).length := ⟨_, rfl⟩
  rw [← hn1] at H1 ⊢
  rw [← hn2] at H2 C1
  have HN2 := Lib.hid hn2
  clear h1 h2 c0 c1 hn1 hn2
  go_enter Try.func7, Try.ntmps7
  go_wp2_with fail
  refine (anys_any H1.out (by omega)).mono ?_
  rintro e w1 ⟨v1, rfl, hv1, _, hb⟩
  have G1 := Lib.hid (And.intro hv1 hb)
  clear hv1 hb
  go_wp2_with fail
  refine (new_any G1.out.1 (by omega)).mono ?_
  rintro e w2 ⟨rfl, hS, hb⟩
  obtain ⟨p, hp⟩ : ∃ p, p = w1.heap.size + 1 := ⟨_, rfl⟩
  obtain ⟨b, hbb⟩ : ∃ b, b = w1.heap.size := ⟨_, rfl⟩
  rw [← hp] at hS
  rw [← hbb] at hS
  rw [← hp]
  have G2 : Hid (SetAt w2 p b (insL [] xs) (.slice none 0 0) ∧ w.heap.size ≤ p ∧ w.heap.size ≤ b ∧ Below w.heap.size w w2) := by
    have := G1.out.2.size
    exact ⟨hS, by omega, by omega, G1.out.2.trans (hb.mono G1.out.2.size)⟩
  clear hS hb hp hbb
  go_wp2_with fail
  have d0 := (G2.out.2.2.2.cell (cell_lt' C0.out)).trans C0.out
  have d1 := (G2.out.2.2.2.cell (cell_lt' C1.out)).trans C1.out
  refine wp_loop_rounds 2 ?_
  rw [rounds_succ]
  go_wp2_with fail
  obtain ⟨s, hs⟩ : ∃ s, s = w2.heap.size := ⟨_, rfl⟩
  have hal : Below w2.heap.size w2 (w2.alloc (.cells #[.int .i64 2, .slice so2 n2 cp2] 32)) := (Below.refl _ _).alloc (Nat.le_refl _) _
  refine (anys_any (by have := H2.out.same (G2.out.2.2.2.trans (hal.mono G2.out.2.2.2.size)); exact this) (by omega)).mono ?_
  rintro e w3 ⟨v2, rfl, hv, hlow, hb⟩
  have G3 : Hid (SetAt w3 p b (insL [] xs) (.slice none 0 0) ∧ Blk w3 s #[.int .i64 2, .slice so2 n2 cp2] 32 ∧ s ≠ p ∧ s ≠ b ∧ w.heap.size ≤ s ∧ Anys w3 v2 ys ∧ (∀ bx o c, v2 = .slice (some ⟨bx, o, none⟩) ys.length c → bx ≠ p ∧ bx ≠ b) ∧ Below w.heap.size w w3 ∧ w.heap.size ≤ p ∧ w.heap.size ≤ b) := by
    have e1 := G2.out.1.plt
    have e2 := G2.out.1.blt
    have e3 := G2.out.2.2.2.size
    have e4 := G2.out.1.same hal
    refine ⟨e4.same hb, ?_, by omega, by omega, by omega, hv, fun bx o c e => ?_, (G2.out.2.2.2.trans (hal.mono e3)).trans (hb.mono (by simp; omega)), G2.out.2.1, G2.out.2.2.1⟩
    · rw [hs]
      exact (hb.block _ (by simp)).trans (Blk.new w2 _ _)
    · have := hlow _ _ _ e
      simp at this
      omega
  clear hv hlow hb hal d0 d1
  rw [← hs]
  clear hs G2
  go_wp2_with fail
  refine (remove_any G3.out.1 G3.out.2.2.2.2.2.1 (by omega) G3.out.2.2.2.2.2.2.1).mono ?_
  rintro e w4 ⟨rfl, hS, hO⟩
  obtain ⟨L, hL⟩ : ∃ L, L = remL (insL [] xs) ys := ⟨_, rfl⟩
  have HL := Lib.hid hL
  rw [← hL] at hS
  have hLl : L.length ≤ 1000 := by rw [hL]; have := remL_le (insL [] xs) ys; have := insL_le [] xs; simp at this; omega
  clear hL
  have G4 : Hid (SetAt w4 p b L (.slice none 0 0) ∧ Blk w4 s #[.int .i64 2, .slice so2 n2 cp2] 32 ∧ s ≠ p ∧ s ≠ b ∧ w.heap.size ≤ s ∧ Below w.heap.size w w4 ∧ w.heap.size ≤ p ∧ w.heap.size ≤ b) := by
    obtain ⟨g1, g2, g3, g4, g5, g6, g7, g8, g9, g10⟩ := G3.out
    exact ⟨hS, g2.only hO (by simp; exact ⟨g3, g4⟩), g3, g4, g5, g8.trans (hO.below g8.size (by simp; exact ⟨g9, g10⟩)), g9, g10⟩
  clear hS hO
  go_wp2_with fail
  have hSame : Hid (∀ W', Below w4.heap.size w4 W' → SetAt W' p b L (.slice none 0 0) ∧ Blk W' s #[.int .i64 2, .slice so2 n2 cp2] 32 ∧ Ints W' (.slice so2 n2 cp2) ys) :=
    Lib.hid fun W' hb => ⟨G4.out.1.same hb, G4.out.2.1.below hb G4.out.2.1.lt, H2.out.same (G4.out.2.2.2.2.2.1.trans (hb.mono G4.out.2.2.2.2.2.1.size))⟩
  have HB0 : Hid (Below w4.heap.size w4 w4.drew) := Lib.hid (Below.refl w4.heap.size w4).drew
  have c1 : w4.cell? ⟨s, 1, none⟩ = some (.slice so2 n2 cp2) := G4.out.2.1.cell rfl
  go_cut [9] (fun v wx => ∃ g, v = .pointer (some ⟨g, 0, none⟩) ∧ w4.heap.size ≤ g ∧ Hid (Blk wx g #[.int .i64 (L.length : Nat), .slice none 0 0, .bool (ys.all fun y => decide (y ∈ mkeys L)), .slice none 0 0] 28 ∧ Below w4.heap.size w4 wx))
  case first =>
    go_region_held3 (fun w' => w'.cell? ⟨s, 1, none⟩ = some (.slice so2 n2 cp2))
      (first | exact c1 | exact (hSame.out _ (by first | exact HB0.out | exact G6.out | exact G5.out.2 | exact HB0.out.alloc HB0.out.size _ | exact G5.out.2.alloc G5.out.2.size _ | exact G6.out.alloc G6.out.size _ | exact (((G6.out.setCell GG.out _).setCell GG.out _).setCell GG.out _).setCell GG.out _)).2.1.cell rfl)
      (first
        | (go_at_call 14; refine (len_any (hSame.out _ (by first | exact HB0.out | exact G6.out | exact G5.out.2 | exact HB0.out.alloc HB0.out.size _ | exact G5.out.2.alloc G5.out.2.size _ | exact G6.out.alloc G6.out.size _ | exact (((G6.out.setCell GG.out _).setCell GG.out _).setCell GG.out _).setCell GG.out _)).1 (by omega)).mono ?_; rintro e w' ⟨rfl, rfl⟩)
        | (go_at_call 10; refine (anys_any (hSame.out _ (HB0.out.alloc HB0.out.size _)).2.2 (by omega)).mono ?_; rintro e w5 ⟨v5, rfl, hv, _, hb⟩; have G5 : Hid (Anys w5 v5 ys ∧ Below w4.heap.size w4 w5) := ⟨hv, (HB0.out.alloc HB0.out.size _).trans (hb.mono (by simp))⟩; have GG := Lib.hid (Nat.le_refl w4.heap.size); have GA : Hid (Blk w5 w4.heap.size #[.int .i64 0, .slice none 0 0, .bool false, .slice none 0 0] 28) := Lib.hid ((Blk.new w4.drew _ _).below hb (by simp)); clear hv hb)
        | (go_at_call 10; refine (anys_any (hSame.out _ HB0.out).2.2 (by omega)).mono ?_; rintro e w5 ⟨v5, rfl, hv, _, hb⟩; have G5 : Hid (Anys w5 v5 ys ∧ Below w4.heap.size w4 w5) := ⟨hv, HB0.out.trans hb⟩; clear hv hb)
        | (go_at_call 15; refine (all_any (hSame.out _ (G5.out.2.alloc G5.out.2.size _)).1 (G5.out.1.same ((Below.refl _ _).alloc (Nat.le_refl _) _)) (by omega)).mono ?_; rintro e w6 ⟨rfl, hb⟩; have G6 : Hid (Below w4.heap.size w4 w6) := Lib.hid ((G5.out.2.alloc G5.out.2.size _).trans (hb.mono (by have := G5.out.2.size; simp; omega))); have GG := Lib.hid (G5.out.2.size); have GB := Lib.hid ((Blk.new _ _ _).below hb (by simp)); have f0 := GB.out.free 0; have f1 := GB.out.free 1; have f2 := GB.out.free 2; have f3 := GB.out.free 3; have e0 := GB.out.cell (i := 0) rfl; have e1 := GB.out.cell (i := 1) rfl; have e2 := GB.out.cell (i := 2) rfl; have e3 := GB.out.cell (i := 3) rfl; clear hb)
        | (have := GA; go_at_call 15; refine (all_any (hSame.out _ G5.out.2).1 G5.out.1 (by omega)).mono ?_; rintro e w6 ⟨rfl, hb⟩; have G6 : Hid (Below w4.heap.size w4 w6) := Lib.hid (G5.out.2.trans (hb.mono G5.out.2.size)); have GB := Lib.hid (GA.out.below hb GA.out.lt); have f0 := GB.out.free 0; have f1 := GB.out.free 1; have f2 := GB.out.free 2; have f3 := GB.out.free 3; have e0 := GB.out.cell (i := 0) rfl; have e1 := GB.out.cell (i := 1) rfl; have e2 := GB.out.cell (i := 2) rfl; have e3 := GB.out.cell (i := 3) rfl; clear hb)
        | (go_at_call 15; refine (all_any (hSame.out _ G5.out.2).1 G5.out.1 (by omega)).mono ?_; rintro e w6 ⟨rfl, hb⟩; have G6 : Hid (Below w4.heap.size w4 w6) := Lib.hid (G5.out.2.trans (hb.mono G5.out.2.size)); clear hb))
    all_goals (go_wp2_with fail; go_meet)
    all_goals first
      | exact ⟨_, rfl, GG.out, (((GB.out.set 0 _).set 1 _).set 2 _).set 3 _, (((G6.out.setCell GG.out _).setCell GG.out _).setCell GG.out _).setCell GG.out _⟩
      | exact ⟨_, rfl, G6.out.size, Blk.new _ _ _, G6.out.alloc G6.out.size _⟩
  case rest =>
  obtain ⟨g, rfl, hg, HW⟩ := hcut
  have HW : Hid (Blk wc g #[.int .i64 (L.length : Nat), .slice none 0 0, .bool (ys.all fun y => decide (y ∈ mkeys L)), .slice none 0 0] 28 ∧ Below w4.heap.size w4 wc) := HW
  go_wp2_with fail
  refine (flatten_any (hSame.out _ HW.out.2).1 hLl).mono ?_
  rintro e w5 ⟨a, ks, cpf, rfl, hS, hA, hnd, hks, hlow, hO⟩
  have G5 : Hid (SetAt w5 p b L (.slice (some a) ks.length cpf) ∧ Anys w5 (.slice (some a) ks.length cpf) ks ∧ ks.Nodup ∧ (∀ k, k ∈ ks ↔ k ∈ mkeys L) ∧ Blk w5 g #[.int .i64 (L.length : Nat), .slice none 0 0, .bool (ys.all fun y => decide (y ∈ mkeys L)), .slice none 0 0] 28 ∧ Blk w5 s #[.int .i64 2, .slice so2 n2 cp2] 32 ∧ Ints w5 (.slice so2 n2 cp2) ys ∧ Below w.heap.size w w5 ∧ w4.heap.size ≤ w5.heap.size ∧ g < w5.heap.size ∧ g ≠ a.block) := by
    obtain ⟨k1, k2, k3⟩ := hSame.out _ HW.out.2
    have q1 := G4.out.1.plt
    have q2 := G4.out.2.2.2.2.2.1.size
    have hB : Below w.heap.size wc w5 := hO.below (Nat.le_trans q2 HW.out.2.size) (by simp; exact G4.out.2.2.2.2.2.2.1)
    refine ⟨hS, hA, hnd, hks, HW.out.1.only hO (by simp; omega), k2.only hO (by simp; exact G4.out.2.2.1), ?_, (G4.out.2.2.2.2.2.1.trans (HW.out.2.mono q2)).trans hB, Nat.le_trans HW.out.2.size hO.size, Nat.lt_of_lt_of_le HW.out.1.lt hO.size, fun e => by have := hlow a rfl; have := HW.out.1.lt; omega⟩
    exact H2.out.same ((G4.out.2.2.2.2.2.1.trans (HW.out.2.mono q2)).trans hB)
  have hkl : ks.length ≤ 1000 := by
    have h1 := nodup_len hnd (fun k hk => (hks k).1 hk)
    simp [mkeys] at h1
    omega
  clear hS hA hnd hks hlow hO
  go_wp2_with fail
  refine (flatten_again G5.out.1).mono ?_
  rintro e w' ⟨rfl, rfl⟩
  obtain ⟨n5, hn5⟩ : ∃ n, n = ks.length := ⟨_, rfl⟩
  have HN5 := Lib.hid hn5
  rw [← hn5]
  rw [← hn5] at hkl
  clear hn5
  go_wp2_with fail
  have hgp : g ≠ p := by have := G4.out.1.plt; omega
  have hgb : g ≠ b := by have := G4.out.1.blt; omega
  have hgs : g ≠ s := by have := G4.out.2.1.lt; omega
  go_loopw [11, 56] (fun _ kv wr => ∃ (k : Nat) (v : Value), k ≤ n5 ∧ kv = .int .i64 k ∧ Hid (Blk wr g #[.int .i64 (L.length : Nat), v, .bool (ys.all fun y => decide (y ∈ mkeys L)), .slice none 0 0] 28 ∧ wr.ownsRow w5.heap.size 3 1 v k ((ks.take k).map (Value.int .i64)) ∧ Only [g] w5 wr)) (fun _ kv _ => n5 - (intOf kv).toNat)
  case atStart => exact ⟨0, _, by omega, rfl, G5.out.2.2.2.2.1, World.ownsRow_nil _ _ _ _, Only.refl _ _⟩
  case round =>
    obtain ⟨k, v, hk, rfl, hR⟩ := hrel
    have HR : Hid (Blk wr g #[.int .i64 (L.length : Nat), v, .bool (ys.all fun y => decide (y ∈ mkeys L)), .slice none 0 0] 28 ∧ wr.ownsRow w5.heap.size 3 1 v k ((ks.take k).map (Value.int .i64)) ∧ Only [g] w5 wr) := hR
    clear hR
    obtain ⟨sv, cv, rfl⟩ := own_shape HR.out.2.1
    by_cases hkn : k < n5
    · obtain ⟨x, hx⟩ : ∃ x, ks[k]? = some x := ⟨ks[k]'(by rw [← HN5.out]; exact hkn), List.getElem?_eq_getElem _⟩
      have HX := Lib.hid hx
      rcases G5.out.2.1 with ⟨h1, h2⟩ | ⟨ab, ao, c, h1, h2, h3⟩
      · simp at h1
      · simp only [Value.slice.injEq, Option.some.injEq] at h1
        obtain ⟨rfl, _, rfl⟩ := h1
        have h4 := h3 k (by rw [List.length_map, ← HN5.out]; exact hkn)
        rw [List.getElem?_map, hx] at h4
        have hne : ab ≠ g := fun e => G5.out.2.2.2.2.2.2.2.2.2.2 e.symm
        have c0 : wr.cell? ⟨ab, ao + k, none⟩ = some (.iface 3 (.int .i64 x)) := (World.cell?_of_block (HR.out.2.2.block ab (cell_lt' h4) (by simp; exact hne))).trans h4
        have c2 := HR.out.1.cell (i := 1) rfl
        have c3 := HR.out.1.free 1
        have c4 : ∀ o : Obj, (wr.alloc o).cell? ⟨g, 1, none⟩ = some (.slice sv k cv) := fun o => (HR.out.1.alloc o).cell (i := 1) rfl
        clear h2 h3 h4 hx c1
        go_wp2_with fail
        have hta : ∀ w : World, (Instr.typeAssert (.iface 3 (.int .i64 x)) 20 3 false).run Try.prog w = .ok (.int .i64 x) w := fun _ => by kernel_rfl
        go_region_law ((refine step_append_own rfl (.tmp 61) (.tmp 64) 24 rfl w5.heap.size 3 i3 (.int .i64 0) 1 8 Try.underlying24 HI3.out.1 HI3.out.2.1 HI3.out.2.2.1 HI3.out.2.2.2 rfl (by decide) _ _ _ rfl (HR.out.2.1.alloc _) ⟨wr.heap.size, 0, none⟩ 1 1 [.int .i64 x] rfl rfl (one_cell (W := wr)) (by intro u hu; simp at hu; subst hu; rfl) (by unfold maxLen; omega) (by omega) (by have := HR.out.2.2.size; simp; omega) ?_; intro v' w6 hown' hgrow; obtain ⟨sv', cv', rfl⟩ := own_shape hown'; have HG6 : Hid (Blk w6 g #[.int .i64 (L.length : Nat), (.slice sv k cv), .bool (ys.all fun y => decide (y ∈ mkeys L)), .slice none 0 0] 28 ∧ w6.ownsRow w5.heap.size 3 1 (.slice sv' (k + 1) cv') (k + 1) ((ks.take (k + 1)).map (Value.int .i64)) ∧ Only [g] w5 w6) := said_grow HR.out.1 HR.out.2.1 HR.out.2.2 (by rw [take_snoc HX.out, List.map_append]; exact hown') hgrow G5.out.2.2.2.2.2.2.2.2.2.1; clear hown' hgrow; have d2 := HG6.out.1.cell (i := 1) rfl; have d3 := HG6.out.1.free 1))
        all_goals
          have HG7 : Hid (Blk (w6.setCell ⟨g, 1, none⟩ (.slice sv' (k + 1) cv')) g #[.int .i64 (L.length : Nat), (.slice sv' (k + 1) cv'), .bool (ys.all fun y => decide (y ∈ mkeys L)), .slice none 0 0] 28 ∧ (w6.setCell ⟨g, 1, none⟩ (.slice sv' (k + 1) cv')).ownsRow w5.heap.size 3 1 (.slice sv' (k + 1) cv') (k + 1) ((ks.take (k + 1)).map (Value.int .i64)) ∧ Only [g] w5 (w6.setCell ⟨g, 1, none⟩ (.slice sv' (k + 1) cv'))) := ⟨HG6.out.1.set 1 _, ownsRow_setCell_below HG6.out.2.1 G5.out.2.2.2.2.2.2.2.2.2.1 _, HG6.out.2.2.setCell (Or.inl (by simp)) _⟩
          clear d2 d3
          go_wp2_with fail
          go_roundw
          case rel => exact ⟨k + 1, _, by omega, by go_num, HG7.out⟩
          case measure => simp [intOf]; omega
    · have hkx : k = n5 := by omega
      have HK := Lib.hid hkx
      clear hkx
      obtain ⟨wo, hwo⟩ : ∃ wo : World, wo = wr := ⟨_, rfl⟩
      have H7 : Hid (Blk wo g #[.int .i64 (L.length : Nat), .slice sv k cv, .bool (ys.all fun y => decide (y ∈ mkeys L)), .slice none 0 0] 28 ∧ Ints wo (.slice sv k cv) ks ∧ SetAt wo p b L (.slice (some a) n5 cpf) ∧ Blk wo s #[.int .i64 2, .slice so2 n2 cp2] 32 ∧ Ints wo (.slice so2 n2 cp2) ys ∧ Below w.heap.size w wo ∧ (∀ ab m c, Value.slice sv k cv = .slice (some ab) m c → w5.heap.size ≤ ab.block)) := by
        subst hwo
        obtain ⟨q1, q2, q3⟩ := HR.out
        have e1 : ks.take k = ks := by rw [HK.out, HN5.out, List.take_length]
        rw [e1] at q2
        have q4 := Vals.of_own q2
        have q5 := own_low q2
        have e3 := G5.out.2.2.2.2.2.2.2.1
        have e4 : w.heap.size ≤ g := Nat.le_trans G4.out.2.2.2.2.2.1.size hg
        refine ⟨q1, q4, by rw [HN5.out]; exact G5.out.1.only q3 (by simp; exact fun e => hgp e.symm) (by simp; exact fun e => hgb e.symm), G5.out.2.2.2.2.2.1.only q3 (by simp; exact fun e => hgs e.symm), ?_⟩
        exact ⟨H2.out.same (e3.trans (q3.below e3.size (by simp; exact e4))), e3.trans (q3.below e3.size (by simp; exact e4)), q5⟩
      rw [← hwo]
      have HKK : Hid (k = ks.length) := Lib.hid (by rw [HK.out, HN5.out])
      clear hwo HR hk HK
      have c2 := H7.out.2.2.2.1.cell (i := 1) rfl
      go_wp2_with fail
      go_loopw [13, 71] (fun _ kv wr => ∃ (j : Nat) (v : Value), j ≤ n2 ∧ kv = .int .i64 j ∧ Hid (Blk wr g #[.int .i64 (L.length : Nat), .slice sv k cv, .bool (ys.all fun y => decide (y ∈ mkeys L)), v] 28 ∧ wr.ownsRow wo.heap.size 4 1 v j ((ys.take j).map fun y => Value.bool (decide (y ∈ mkeys L))) ∧ Only [g] wo wr)) (fun _ kv _ => n2 - (intOf kv).toNat)
      case atStart => exact ⟨0, _, by omega, rfl, H7.out.1, World.ownsRow_nil _ _ _ _, Only.refl _ _⟩
      case round =>
        obtain ⟨j, v, hj, rfl, hR⟩ := hrel
        have HR : Hid (Blk wr g #[.int .i64 (L.length : Nat), .slice sv k cv, .bool (ys.all fun y => decide (y ∈ mkeys L)), v] 28 ∧ wr.ownsRow wo.heap.size 4 1 v j ((ys.take j).map fun y => Value.bool (decide (y ∈ mkeys L))) ∧ Only [g] wo wr) := hR
        clear hR c2
        obtain ⟨sw, cw, rfl⟩ := own_shape HR.out.2.1
        by_cases hjn : j < n2
        · obtain ⟨y, hy⟩ : ∃ y, ys[j]? = some y := ⟨ys[j]'(by have := HN2.out; simp at this; omega), List.getElem?_eq_getElem _⟩
          have HY := Lib.hid hy
          rcases H7.out.2.2.2.2.1 with ⟨h1, h2⟩ | ⟨ab, ao, c, h1, h2, h3⟩
          · simp at h1; omega
          · simp only [Value.slice.injEq] at h1
            obtain ⟨rfl, h5, rfl⟩ := h1
            have h4 := h3 j (by omega)
            rw [List.getElem?_map, hy] at h4
            have hn2l : n2 ≤ 100 := by have := HN2.out; simp at this; omega
            have hne : ab ≠ g := by
              intro e
              have h6 := h4
              rw [e] at h6
              have h7 := H2.out
              rcases h7 with ⟨h8, _⟩ | ⟨ab', ao', c', h8, _, h9⟩
              · simp at h8
              · simp only [Value.slice.injEq, Option.some.injEq, Addr.mk.injEq] at h8
                obtain ⟨⟨rfl, rfl, _⟩, _, _⟩ := h8
                have h10 := h9 j (by omega)
                rw [List.getElem?_map, hy] at h10
                have h11 := cell_lt' h10
                have h12 := G4.out.2.2.2.2.2.1.size
                have h13 : ab < w.heap.size := h11
                omega
            have c0 : wr.cell? ⟨ab, ao + j, none⟩ = some (.int .i64 y) := (World.cell?_of_block (HR.out.2.2.block ab (cell_lt' h4) (by simp; exact hne))).trans h4
            have c2 := HR.out.1.cell (i := 3) rfl
            have c3 := HR.out.1.free 3
            have HS8 : Hid (SetAt wr p b L (.slice (some a) n5 cpf)) := Lib.hid (H7.out.2.2.1.only HR.out.2.2 (by simp; exact fun e => hgp e.symm) (by simp; exact fun e => hgb e.symm))
            clear h2 h3 h4 h5 hy
            go_wp2_with fail
            go_region_law ((first | (go_simp; go_at_call 17; refine (exists_any (HS8.out.same (Below.refl _ _).drew) y).mono ?_; rintro e w8 ⟨rfl, hb0⟩; have hb : Below wr.heap.size wr w8 := (Below.refl wr.heap.size wr).drew.trans hb0; clear hb0; have G8 : Hid (Blk w8 g #[.int .i64 (L.length : Nat), .slice sv k cv, .bool (ys.all fun y => decide (y ∈ mkeys L)), (.slice sw j cw)] 28 ∧ w8.ownsRow wo.heap.size 4 1 (.slice sw j cw) j ((ys.take j).map fun y => Value.bool (decide (y ∈ mkeys L))) ∧ Only [g] wo w8) := ⟨HR.out.1.below hb HR.out.1.lt, own_other (M := []) HR.out.2.1 (Only.of_below hb) (by simp), HR.out.2.2.trans (Only.of_below hb)⟩; clear hb; have c5 := G8.out.1.cell (i := 3) rfl; have c6 : ∀ o : Obj, (w8.alloc o).cell? ⟨g, 3, none⟩ = some (.slice sw j cw) := fun o => (G8.out.1.alloc o).cell (i := 3) rfl) | (refine step_append_own rfl (.tmp 76) (.tmp 81) 26 rfl wo.heap.size 4 i4 (.bool false) 1 1 Try.underlying26 HI4.out.1 HI4.out.2.1 HI4.out.2.2.1 HI4.out.2.2.2 rfl (by decide) _ _ _ rfl (G8.out.2.1.alloc _) ⟨w8.heap.size, 0, none⟩ 1 1 [.bool (decide (y ∈ mkeys L))] rfl rfl (one_cell (W := w8)) (by intro u hu; simp at hu; subst hu; rfl) (by unfold maxLen; omega) (by omega) (by have := G8.out.2.2.size; simp; omega) ?_; intro v' w9 hown' hgrow; obtain ⟨sw', cw', rfl⟩ := own_shape hown'; have G9 : Hid (Blk w9 g #[.int .i64 (L.length : Nat), .slice sv k cv, .bool (ys.all fun y => decide (y ∈ mkeys L)), (.slice sw j cw)] 28 ∧ w9.ownsRow wo.heap.size 4 1 (.slice sw' (j + 1) cw') (j + 1) ((ys.take (j + 1)).map fun y => Value.bool (decide (y ∈ mkeys L))) ∧ Only [g] wo w9) := said_grow' G8.out.1 G8.out.2.1 G8.out.2.2 (by rw [take_snoc HY.out, List.map_append]; exact hown') hgrow H7.out.1.lt; clear hown' hgrow; have d2 := G9.out.1.cell (i := 3) rfl; have d3 := G9.out.1.free 3)))
            all_goals
              have G10 : Hid (Blk (w9.setCell ⟨g, 3, none⟩ (.slice sw' (j + 1) cw')) g #[.int .i64 (L.length : Nat), .slice sv k cv, .bool (ys.all fun y => decide (y ∈ mkeys L)), (.slice sw' (j + 1) cw')] 28 ∧ (w9.setCell ⟨g, 3, none⟩ (.slice sw' (j + 1) cw')).ownsRow wo.heap.size 4 1 (.slice sw' (j + 1) cw') (j + 1) ((ys.take (j + 1)).map fun y => Value.bool (decide (y ∈ mkeys L))) ∧ Only [g] wo (w9.setCell ⟨g, 3, none⟩ (.slice sw' (j + 1) cw'))) := ⟨G9.out.1.set 3 _, ownsRow_setCell_below G9.out.2.1 H7.out.1.lt _, G9.out.2.2.setCell (Or.inl (by simp)) _⟩
              clear d2 d3
              go_wp2_with fail
              go_roundw
              case rel => exact ⟨j + 1, _, by omega, by go_num, G10.out⟩
              case measure => simp [intOf]; omega
        · have hjx : j = n2 := by omega
          have HJ := Lib.hid hjx
          clear hjx
          have c20 := HR.out.1.cell (i := 0) rfl
          have c21 := HR.out.1.cell (i := 1) rfl
          have c22 := HR.out.1.cell (i := 2) rfl
          have c23 := HR.out.1.cell (i := 3) rfl
          go_wp2_with fail
          rw [rounds_succ]
          go_wp2_with fail
          go_ret
          have e4 : w.heap.size ≤ g := Nat.le_trans G4.out.2.2.2.2.2.1.size hg
          have e5 := H7.out.2.2.2.2.2.1
          have e6 := (((Below.refl wr.heap.size wr).alloc (Nat.le_refl _) (Obj.cells #[Value.int IntKind.i64 L.length, Value.slice sv k cv, Value.bool (ys.all fun y => decide (y ∈ mkeys L)), Value.slice sw j cw] 28)).alloc (by simp) (Obj.cells
          (#[Value.int IntKind.i64 ↑L.length, Value.slice sv k cv, Value.bool (ys.all fun y => decide (y ∈ mkeys L)),
              Value.slice sw j cw] ++
            Builtin.zeroCells #[Value.int IntKind.i64 0, Value.slice none 0 0, Value.bool false, Value.slice none 0 0]
              ((Question.appendCap 1 0 28).cut (wr.tape wr.drawn (Question.appendCap 1 0 28)) - 1))
          28)).drew
          have e7 : Below w.heap.size w wr := e5.trans (HR.out.2.2.below e5.size (by simp; exact e4))
          rw [← HL.out]
          have e10 := HKK.out
          subst e10
          refine ⟨wr.heap.size + 1, _, sv, cv, sw, j, cw, ks, rfl, cut_le _ _, new_cells rfl, new_cells rfl, new_cells rfl, new_cells rfl, Vals.same ?_ e6, G5.out.2.2.1, G5.out.2.2.2.1, (fun a e => by have h1 := H7.out.2.2.2.2.2.2 a _ _ (by rw [e]); have h2 := G5.out.2.2.2.2.2.2.2.1.size; omega), e7.trans (e6.mono e7.size)⟩
          refine Vals.heap H7.out.2.1 fun bb o c e _ hlt => HR.out.2.2.block bb hlt ?_
          have e8 := H7.out.2.2.2.2.2.2 _ _ _ e
          have e9 := G5.out.2.2.2.2.2.2.2.2.2.1
          simp at e8 ⊢
          omega
end Go.Proofs.Ytjijgkjmndpngaa
