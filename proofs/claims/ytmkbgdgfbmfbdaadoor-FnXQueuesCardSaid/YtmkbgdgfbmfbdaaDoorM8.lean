/- impl.mgItems, laws.dmKeys, impl.MGMerge. -/
import Derived.Test.YtmkbgdgfbmfbdaaDoorM7
import Derived.Test.YtmkbgdgfbmfbdaaDoorRecKit
namespace Go.Proofs.YtmkbgdgfbmfbdaaDoor.MG
open Go.RowKit

theorem infoG : (Tryd.prog.info? 44).map (fun i => (i.zero, i.size, i.bytes)) = some (some (.agg #[.int .i64 0, .int .i64 0]), 2, 16) := by kernel_rfl
theorem infoI : (Tryd.prog.info? 3).map (fun i => (i.zero, i.size, i.bytes)) = some (some (.int .i64 0), 1, 8) := by kernel_rfl
theorem own_grown2 {w wm w' : World} {base : Nat} {e : TypeId} {size : Nat} {v : Value} {n : Nat} {xs : List Value} (hown : w.ownsRow base e size v n xs) (hm : Below w.heap.size w wm)
    (hg : wm.grownBy w' v.ownBlock) (hb : base ≤ w.heap.size) : Below base w w' := by
  refine (hm.mono hb).trans ((Below.refl _ _).grown hg (by have := hm.size; omega) ?_)
  intro k hk
  obtain ⟨_, h | ⟨g, cap, cur, hv, hge, _⟩⟩ := hown
  · rw [h.1] at hk; simp [Value.ownBlock] at hk
  · rw [hv] at hk; simp [Value.ownBlock] at hk; omega
/-- Two blocks more. -/
theorem boxed (w : World) (o o2 : Obj) : Below w.heap.size w ((w.alloc o).alloc o2) := ((Below.refl _ _).alloc (Nat.le_refl _) _).alloc (by simp) _
theorem cell_two {W : World} {o : Obj} {x : Value} {T : TypeId} : ∀ j u, [x][j]? = some u → ((W.alloc o).alloc (.cells #[x] T)).cell? ((⟨W.heap.size + 1, 0, none⟩ : Addr).add j) = some u := by
  intro j u hj
  have h := (Blk.new (W.alloc o) #[x] T).cell (i := j) (v := u) (by simpa using hj)
  rw [World.size_alloc] at h
  rw [addr_add, Nat.zero_add]
  exact h
theorem take_snoc {L : List Item} {i : Nat} (h : i < L.length) : (L.take (i + 1)).map mit = (L.take i).map mit ++ [mit (gt_ L i)] := by
  rw [List.take_add_one, at_gt h]; simp
theorem take_snoc2 {L : List Item} {i : Nat} (h : i < L.length) : ((L.take (i + 1)).map rec2).flatten = ((L.take i).map rec2).flatten ++ rec2 (gt_ L i) := by
  rw [List.take_add_one, at_gt h]; simp
theorem take_snoc1 {L : List Item} {i : Nat} (h : i < L.length) : (L.take (i + 1)).map (fun x => Value.int .i64 x.1) = (L.take i).map (fun x => Value.int .i64 x.1) ++ [.int .i64 (gt_ L i).1] := by
  rw [List.take_add_one, at_gt h]; simp

set_option maxRecDepth 1000000 in
set_option maxHeartbeats 4000000 in
theorem items_any {w : World} {so : Option Addr} {n cp : Nat} {L : List Item} (hs : Pairs w (.slice so n cp) L) (hl : n ≤ 100) :
    Calls Tryd.prog 23 #[.slice so n cp] w fun e w' => ∃ g cap, e = .returned (.slice (some ⟨g, 0, none⟩) n cap) ∧ Row w.heap.size w' g n cap L ∧ Below w.heap.size w w' := by
  obtain ⟨i0, hi, hz0, hz1, hz2⟩ := info_at infoM
  have HI : Hid (Tryd.prog.info? 59 = some i0 ∧ i0.zero = some .nilIface ∧ i0.size = 1 ∧ i0.bytes = 16) := ⟨hi, hz0, hz1, hz2⟩
  obtain ⟨W, hmk, hown0, hgr0⟩ := run_make_own (P := Tryd.prog) (w := w) w.heap.size 55 59 i0 .nilIface 1 Tryd.underlying55 hi hz0 hz1 .i64 .i64 n (by rw [hz2]; omega) (by unfold maxLen; omega) (Nat.le_refl _)
  have hlen : L.length = n := by have := hs.len; rwa [List.length_map] at this
  have H0 : Hid (Pairs w (.slice so n cp) L ∧ L.length = n ∧ W.ownsRow w.heap.size 59 1 (.slice (some ⟨w.heap.size, 0, none⟩) 0 n) 0 [] ∧ Below w.heap.size w W) :=
    ⟨hs, hlen, hown0, (Below.refl _ _).grown hgr0 (Nat.le_refl _) (by intro k hk; cases hk)⟩
  clear hi hz0 hz1 hz2 hs hlen hown0 hgr0
  go_enter Tryd.func23, Tryd.ntmps23
  go_wp2_with fail
  go_loopw [3, 5, 11] (fun sv _ iv wr => ∃ (i g cap : Nat), iv = .int .i64 (i : Nat) ∧ sv = .slice (some ⟨g, 0, none⟩) i cap ∧ i ≤ n ∧ Hid (wr.ownsRow w.heap.size 59 1 (.slice (some ⟨g, 0, none⟩) i cap) i ((L.take i).map mit) ∧ Below w.heap.size w wr)) (fun _ _ iv _ => n - (intOf iv).toNat)
  case atStart => exact ⟨0, w.heap.size, n, rfl, rfl, by omega, H0.out.2.2.1, H0.out.2.2.2⟩
  case round =>
    obtain ⟨i, g, cap, rfl, rfl, hin, hR⟩ := hrel
    have HR : Hid (wr.ownsRow w.heap.size 59 1 (.slice (some ⟨g, 0, none⟩) i cap) i ((L.take i).map mit) ∧ Below w.heap.size w wr) := hR
    clear hR hmk
    by_cases hlt : i < n
    · have z1 : (i : Int) < (n : Int) := by omega
      have z0 : (0 : Int) ≤ (i : Int) := by omega
      obtain ⟨x1, x2, hx⟩ : ∃ x1 x2, (x1, x2) = gt_ L i := ⟨_, _, rfl⟩
      obtain ⟨b, o, rfl, d0, d1⟩ := Pairs.at H0.out.1 (at_gt (by rw [H0.out.2.1]; exact hlt))
      rw [← hx] at d0 d1
      have c0 : wr.cell? ⟨b, o + i * 2, none⟩ = some (.int .i64 x1) := (HR.out.2.cell (cell_lt' d0)).trans d0
      have c1 : wr.cell? ⟨b, o + i * 2 + 1, none⟩ = some (.int .i64 x2) := (HR.out.2.cell (cell_lt' d1)).trans d1
      have HX := Lib.hid hx
      clear d0 d1 hx
      go_wp2_with (at_builtin; go_must (refine wpList_append_own_at _ rfl (.tmp 15) (.tmp 19) 55 rfl w.heap.size 59 i0 .nilIface 1 16 Tryd.underlying55 HI.out.1 HI.out.2.1 HI.out.2.2.1 HI.out.2.2.2 rfl (by decide) (.slice (some ⟨g, 0, none⟩) i cap) i _ rfl ((HR.out.1.alloc _).alloc _) ⟨wr.heap.size + 1, 0, none⟩ 1 1 [.iface 61 (.agg #[.int .i64 x1, .int .i64 x2])] rfl rfl ?c1 ?c2 ?c3 ?c4 ?c5 ?_))
      case c1 => exact cell_two
      case c2 => intro u hu; simp at hu; subst hu; rfl
      case c3 => unfold maxLen; omega
      case c4 => omega
      case c5 => have := HR.out.2.size; simp; omega
      intro v' w3 hown' hgrow _ _
      obtain ⟨g3, cap3, rfl⟩ := own_some hown' (by omega)
      have HQ : Hid (w3.ownsRow w.heap.size 59 1 (.slice (some ⟨g3, 0, none⟩) (i + 1) cap3) (i + 1) ((L.take (i + 1)).map mit) ∧ Below w.heap.size w w3) := by
        refine ⟨?_, HR.out.2.trans (own_grown2 HR.out.1 (boxed wr _ _) hgrow HR.out.2.size)⟩
        rw [take_snoc (by rw [H0.out.2.1]; exact hlt), ← HX.out]
        rw [← List.map_take] at hown'
        exact hown'
      clear hown' hgrow
      go_wp2_with fail
      go_roundw
      case rel => exact ⟨i + 1, g3, cap3, by go_num, rfl, by omega, HQ.out⟩
      case measure => simp [intOf]; omega
    · have z1 : ¬ (i : Int) < (n : Int) := by omega
      obtain rfl : i = n := by omega
      go_wp2_with fail
      go_ret
      refine ⟨g, cap, rfl, ?_, HR.out.2⟩
      have h := HR.out.1
      rw [List.take_of_length_le (by rw [H0.out.2.1]; exact Nat.le_refl _)] at h
      exact h

set_option maxRecDepth 1000000 in
set_option maxHeartbeats 4000000 in
theorem keys_any {w : World} {so : Option Addr} {n cp : Nat} {L : List Item} (hs : Pairs w (.slice so n cp) L) (hl : n ≤ 200) :
    Calls Tryd.prog 17 #[.slice so n cp] w fun e w' => ∃ v, e = .returned v ∧ w'.ownsRow w.heap.size 3 1 v n (L.map (fun x => Value.int .i64 x.1)) ∧ Below w.heap.size w w' := by
  obtain ⟨i0, hi, hz0, hz1, hz2⟩ := info_at infoI
  have HI : Hid (Tryd.prog.info? 3 = some i0 ∧ i0.zero = some (.int .i64 0) ∧ i0.size = 1 ∧ i0.bytes = 8) := ⟨hi, hz0, hz1, hz2⟩
  have hlen : L.length = n := by have := hs.len; rwa [List.length_map] at this
  have H0 : Hid (Pairs w (.slice so n cp) L ∧ L.length = n) := ⟨hs, hlen⟩
  clear hi hz0 hz1 hz2 hs hlen
  go_enter Tryd.func17, Tryd.ntmps17
  go_wp2_with fail
  go_loopw [3, 5, 8] (fun sv _ iv wr => ∃ (i : Nat), iv = .int .i64 (i : Nat) ∧ i ≤ n ∧ Hid (wr.ownsRow w.heap.size 3 1 sv i ((L.take i).map (fun x => Value.int .i64 x.1)) ∧ Below w.heap.size w wr)) (fun _ _ iv _ => n - (intOf iv).toNat)
  case atStart => exact ⟨0, rfl, by omega, World.ownsRow_nil _ _ _ _, Below.refl _ _⟩
  case round =>
    obtain ⟨i, rfl, hin, hR⟩ := hrel
    have HR : Hid (wr.ownsRow w.heap.size 3 1 u3 i ((L.take i).map (fun x => Value.int .i64 x.1)) ∧ Below w.heap.size w wr) := hR
    clear hR
    obtain ⟨s3, c3, rfl⟩ := own_shape HR.out.1
    by_cases hlt : i < n
    · have z1 : (i : Int) < (n : Int) := by omega
      have z0 : (0 : Int) ≤ (i : Int) := by omega
      obtain ⟨x1, x2, hx⟩ : ∃ x1 x2, (x1, x2) = gt_ L i := ⟨_, _, rfl⟩
      obtain ⟨b, o, rfl, d0, d1⟩ := Pairs.at H0.out.1 (at_gt (by rw [H0.out.2]; exact hlt))
      rw [← hx] at d0 d1
      have c0 : wr.cell? ⟨b, o + i * 2, none⟩ = some (.int .i64 x1) := (HR.out.2.cell (cell_lt' d0)).trans d0
      have c1 : wr.cell? ⟨b, o + i * 2 + 1, none⟩ = some (.int .i64 x2) := (HR.out.2.cell (cell_lt' d1)).trans d1
      have HX := Lib.hid hx
      clear d0 d1 hx
      go_wp2_with (at_builtin; go_must (refine wpList_append_own_at _ rfl (.tmp 12) (.tmp 15) 26 rfl w.heap.size 3 i0 (.int .i64 0) 1 8 Tryd.underlying26 HI.out.1 HI.out.2.1 HI.out.2.2.1 HI.out.2.2.2 rfl (by decide) (.slice s3 i c3) i _ rfl ((HR.out.1.alloc _).alloc _) ⟨wr.heap.size + 1, 0, none⟩ 1 1 [.int .i64 x1] rfl rfl ?c1 ?c2 ?c3 ?c4 ?c5 ?_))
      case c1 => exact cell_two
      case c2 => intro u hu; simp at hu; subst hu; rfl
      case c3 => unfold maxLen; omega
      case c4 => omega
      case c5 => have := HR.out.2.size; simp; omega
      intro v' w3 hown' hgrow _ _
      obtain ⟨s4, c4, rfl⟩ := own_shape hown'
      have HQ : Hid (w3.ownsRow w.heap.size 3 1 (.slice s4 (i + 1) c4) (i + 1) ((L.take (i + 1)).map (fun x => Value.int .i64 x.1)) ∧ Below w.heap.size w w3) := by
        refine ⟨?_, HR.out.2.trans (own_grown2 HR.out.1 (boxed wr _ _) hgrow HR.out.2.size)⟩
        rw [take_snoc1 (by rw [H0.out.2]; exact hlt), ← HX.out]
        rw [← List.map_take] at hown'
        exact hown'
      clear hown' hgrow
      go_wp2_with fail
      go_roundw
      case rel => exact ⟨i + 1, by go_num, by omega, HQ.out⟩
      case measure => simp [intOf]; omega
    · have z1 : ¬ (i : Int) < (n : Int) := by omega
      obtain rfl : i = n := by omega
      go_wp2_with fail
      go_ret
      refine ⟨_, rfl, ?_, HR.out.2⟩
      have h := HR.out.1
      rw [List.take_of_length_le (by rw [H0.out.2]; exact Nat.le_refl _)] at h
      exact h

theorem two_cells {W : World} {xs : List Value} {T : TypeId} : ∀ j u, xs[j]? = some u → (W.alloc (.cells xs.toArray T)).cell? ((⟨W.heap.size, 0, none⟩ : Addr).add j) = some u := by
  intro j u hj
  have h := (Blk.new W xs.toArray T).cell (i := j) (v := u) (by rw [List.getElem?_toArray]; exact hj)
  rw [addr_add, Nat.zero_add]
  exact h
set_option maxRecDepth 1000000 in
set_option maxHeartbeats 4000000 in
theorem mgMerge_any {w : World} {so so' : Option Addr} {n n' cp cp' : Nat} {U V : List Item} (hU : Pairs w (.slice so n cp) U) (hV : Pairs w (.slice so' n' cp') V) (hn : n ≤ 100) (hn' : n' ≤ 100) (su : Up U) (sv : Up V) :
    Calls Tryd.prog 18 #[.slice so n cp, .slice so' n' cp'] w fun e w' => ∃ v, e = .returned v ∧ ∃ L, w'.ownsRow w.heap.size 44 2 v (n + n') (L.map rec2).flatten ∧ L.Perm (U ++ V) ∧ Up L ∧ Below w.heap.size w w' := by
  obtain ⟨i0, hi, hz0, hz1, hz2⟩ := info_at infoG
  have HI : Hid (Tryd.prog.info? 44 = some i0 ∧ i0.zero = some (.agg #[.int .i64 0, .int .i64 0]) ∧ i0.size = 2 ∧ i0.bytes = 16) := ⟨hi, hz0, hz1, hz2⟩
  clear hi hz0 hz1 hz2
  have lU : U.length = n := by have := hU.len; rwa [List.length_map] at this
  have lV : V.length = n' := by have := hV.len; rwa [List.length_map] at this
  have H0 : Hid (Pairs w (.slice so n cp) U ∧ Pairs w (.slice so' n' cp') V ∧ Up U ∧ Up V ∧ U.length = n ∧ V.length = n') := ⟨hU, hV, su, sv, lU, lV⟩
  clear hU hV su sv lU lV
  have hta : ∀ (y1 y2 : Int) (w : World), (Instr.typeAssert (.iface 61 (.agg #[.int .i64 y1, .int .i64 y2])) 59 61 false).run Tryd.prog w = .ok (.agg #[.int .i64 y1, .int .i64 y2]) w := fun _ _ _ => by kernel_rfl
  have hf1 : ∀ (y1 y2 : Int) (w : World), (Instr.field 61 (.agg #[.int .i64 y1, .int .i64 y2]) 0).run Tryd.prog w = .ok (.agg #[.int .i64 y1, .int .i64 y2]) w := fun _ _ _ => by kernel_rfl
  go_enter Tryd.func18, Tryd.ntmps18
  go_wp2_with fail
  refine (items_any H0.out.1 hn).mono ?_
  rintro e w1 ⟨g1, c1, rfl, r1, hb⟩
  have H1 : Hid (Row w.heap.size w1 g1 n c1 U ∧ Pairs w1 (.slice so' n' cp') V ∧ Below w.heap.size w w1) := ⟨r1, H0.out.2.1.same hb, hb⟩
  clear r1 hb
  go_wp2_with fail
  refine (items_any H1.out.2.1 hn').mono ?_
  rintro e w2 ⟨g2, c2, rfl, r2, hb⟩
  have H2 : Hid (Row w.heap.size w2 g1 n c1 U ∧ Row w.heap.size w2 g2 n' c2 V ∧ Below w.heap.size w w2) := ⟨H1.out.1.same hb, own_low' r2 H1.out.2.2.size, H1.out.2.2.trans (hb.mono H1.out.2.2.size)⟩
  clear r2 hb
  go_wp2_with fail
  refine (sym_any H2.out.1 H2.out.2.1 H2.out.2.2.size hn hn' (srt_of_up H0.out.2.2.2.2.1 H0.out.2.2.1) (srt_of_up H0.out.2.2.2.2.2 H0.out.2.2.2.1)).mono ?_
  rintro e w3 ⟨g, m, cap, L, rfl, hrow, hp, hu, hb⟩
  have hm : m = n + n' := by have h1 := hp.length_eq; rw [List.length_append, hrow.len, H0.out.2.2.2.2.1, H0.out.2.2.2.2.2] at h1; exact h1
  have H3 : Hid (Row w.heap.size w3 g m cap L ∧ L.Perm (U ++ V) ∧ Up L ∧ Below w.heap.size w w3 ∧ m = n + n' ∧ L.length = m) := ⟨hrow, hp, hu, H2.out.2.2.trans hb, hm, hrow.len⟩
  have hm2 : m ≤ 200 := by omega
  have s3 := H3.out.2.2.2.1.size
  clear hrow hp hu hb hm
  go_wp2_with fail
  go_loopw [5, 7, 14] (fun sv _ iv wr => ∃ (i : Nat), iv = .int .i64 (i : Nat) ∧ i ≤ m ∧ Hid (wr.ownsRow w3.heap.size 44 2 sv i ((L.take i).map rec2).flatten ∧ Below w3.heap.size w3 wr)) (fun _ _ iv _ => m - (intOf iv).toNat)
  case atStart => exact ⟨0, rfl, by omega, World.ownsRow_nil _ _ _ _, Below.refl _ _⟩
  case round =>
    obtain ⟨i, rfl, hin, hR⟩ := hrel
    have HR : Hid (wr.ownsRow w3.heap.size 44 2 u5 i ((L.take i).map rec2).flatten ∧ Below w3.heap.size w3 wr) := hR
    clear hR
    obtain ⟨s5, d5, rfl⟩ := own_shape HR.out.1
    by_cases hlt : i < m
    · have z1 : (i : Int) < (m : Int) := by omega
      have z0 : (0 : Int) ≤ (i : Int) := by omega
      obtain ⟨x1, x2, hx⟩ : ∃ x1 x2, (x1, x2) = gt_ L i := ⟨_, _, rfl⟩
      have d0 := (H3.out.1.at_ hlt).1
      rw [← hx] at d0
      have d1 : w3.cell? ⟨g, i, none⟩ = some (.iface 61 (.agg #[.int .i64 x1, .int .i64 x2])) := d0
      have c0 : wr.cell? ⟨g, i, none⟩ = some (.iface 61 (.agg #[.int .i64 x1, .int .i64 x2])) := (HR.out.2.cell (cell_lt' d1)).trans d1
      have HX := Lib.hid hx
      clear d0 d1 hx
      go_wp2_with (at_builtin; go_must (refine wpList_append_own_at _ rfl (.tmp 18) (.tmp 22) 42 rfl w3.heap.size 44 i0 (.agg #[.int .i64 0, .int .i64 0]) 2 16 Tryd.underlying42 HI.out.1 HI.out.2.1 HI.out.2.2.1 HI.out.2.2.2 rfl (by decide) (.slice s5 i d5) i _ rfl (HR.out.1.alloc _) ⟨wr.heap.size, 0, none⟩ 1 1 [.int .i64 x1, .int .i64 x2] rfl rfl ?c1 ?c2 ?c3 ?c4 ?c5 ?_))
      case c1 => exact two_cells
      case c2 => intro u hu; simp at hu; rcases hu with rfl | rfl <;> rfl
      case c3 => unfold maxLen; omega
      case c4 => omega
      case c5 => have := HR.out.2.size; simp; omega
      intro v' w6 hown' hgrow _ _
      obtain ⟨s6, c6, rfl⟩ := own_shape hown'
      have HQ : Hid (w6.ownsRow w3.heap.size 44 2 (.slice s6 (i + 1) c6) (i + 1) ((L.take (i + 1)).map rec2).flatten ∧ Below w3.heap.size w3 w6) := by
        refine ⟨?_, HR.out.2.trans (own_grown HR.out.1 hgrow HR.out.2.size)⟩
        rw [take_snoc2 (by rw [H3.out.2.2.2.2.2]; exact hlt), ← HX.out]
        rw [← List.map_take] at hown'
        exact hown'
      clear hown' hgrow
      go_wp2_with fail
      go_roundw
      case rel => exact ⟨i + 1, by go_num, by omega, HQ.out⟩
      case measure => simp [intOf]; omega
    · have z1 : ¬ (i : Int) < (m : Int) := by omega
      obtain rfl : i = m := by omega
      go_wp2_with fail
      go_ret
      refine ⟨_, rfl, L, ?_, H3.out.2.1, H3.out.2.2.1, H3.out.2.2.2.1.trans (HR.out.2.mono s3)⟩
      have h := HR.out.1
      rw [List.take_of_length_le (by rw [H3.out.2.2.2.2.2]; exact Nat.le_refl _)] at h
      rw [← H3.out.2.2.2.2.1]
      exact own_low' h s3
end Go.Proofs.YtmkbgdgfbmfbdaaDoor.MG
