/- fiSteps: whatever the steps, those that are looked at are of the six kinds. -/
import Derived.Test.YtiiobifljflkiaaF12
import Derived.BigRegion
namespace Go.Proofs.Ytiiobifljflkiaa
open Go.RowKit FI

/-- A slice of so many steps of whatever kinds. -/
def Raws (w : World) (so : Option Addr) (n cp : Nat) : Prop :=
  n ≤ cp ∧ (0 < n → ∃ b o, so = some ⟨b, o, none⟩ ∧ ∀ i, i < n → ∃ (z : Int) (k v : Nat), w.cell? ⟨b, o + i * 3, none⟩ = some (.int .i64 z) ∧ w.cell? ⟨b, o + i * 3 + 1, none⟩ = some (.int .u64 (k : Nat)) ∧ w.cell? ⟨b, o + i * 3 + 2, none⟩ = some (.int .u64 (v : Nat)) ∧
    -9223372036854775808 ≤ z ∧ z < 9223372036854775808 ∧ k < 18446744073709551616 ∧ v < 18446744073709551616)
theorem cells_new (W : World) (vs : Array Value) (t : TypeId) (ad : Nat) (had : ad = W.heap.size) : ∀ j x, vs.toList[j]? = some x → (W.alloc (.cells vs t)).cell? ((⟨ad, 0, none⟩ : Addr).add j) = some x := by
  subst had
  intro j x hj
  have h1 := (Blk.new W vs t).cell (i := j) (v := x) (by simpa using hj)
  cases j with
  | zero => exact h1
  | succ j => simpa [Addr.add] using h1
theorem info26 : (Try.prog.info? 26).map (fun i => (i.zero, i.size, i.bytes)) = some (some (.agg #[.int .i64 0, .int .u64 0, .int .u64 0]), 3, 24) := by kernel_rfl

theorem Good.snoc {S : List Stp} (h : Good S) (hl : S.length < 200) {q k v : Nat} (h1 : 1 ≤ q) (h2 : q ≤ 6) (h3 : k < 18446744073709551616) (h4 : v < 18446744073709551616) : Good (S ++ [⟨q, k, v⟩]) := by
  refine ⟨by simp; omega, fun i hi => ?_⟩
  rw [List.getD_eq_getElem?_getD]
  rcases Nat.lt_or_ge i S.length with h5 | h5
  · rw [List.getElem?_append_left h5, ← List.getD_eq_getElem?_getD]; exact h.2 i h5
  · have : i = S.length := by simp at hi; omega
    subst this
    rw [List.getElem?_append_right (by omega), Nat.sub_self]
    exact ⟨h1, h2, h3, h4⟩
theorem Good.set {S : List Stp} (h : Good S) {i : Nat} (hi : i < S.length) : Good (S.set i ⟨3, (S.getD i stp0).key, (S.getD i stp0).val⟩) := by
  refine ⟨by simpa using h.1, fun j hj => ?_⟩
  rw [List.length_set] at hj
  rw [List.getD_eq_getElem?_getD, List.getElem?_set]
  by_cases e : i = j
  · subst e
    rw [if_pos rfl, if_pos hi]
    have := h.2 i hi
    exact ⟨by simp, by simp, this.2.2.1, this.2.2.2⟩
  · rw [if_neg e, ← List.getD_eq_getElem?_getD]; exact h.2 j hj
theorem cellsOf_set : ∀ (S : List Stp) (i : Nat), i < S.length → (cellsOf S).set (i * 3) (.int .i64 3) = cellsOf (S.set i ⟨3, (S.getD i stp0).key, (S.getD i stp0).val⟩)
  | [], i, h => absurd h (Nat.not_lt_zero _)
  | x :: S, 0, _ => rfl
  | x :: S, i + 1, h => by
    have := cellsOf_set S i (by simpa using h)
    have e : ∀ (y : Stp) (T : List Stp), cellsOf (y :: T) = .int .i64 (y.op : Nat) :: .int .u64 (y.key : Nat) :: .int .u64 (y.val : Nat) :: cellsOf T := fun _ _ => rfl
    rw [e, show (i + 1) * 3 = i * 3 + 1 + 1 + 1 by omega, List.set_cons_succ, List.set_cons_succ, List.set_cons_succ, this, List.set_cons_succ, e]
    rfl
theorem own_op {w : World} {base : Nat} {e : TypeId} {v : Value} {n : Nat} {S : List Stp} (h : w.ownsRow base e 3 v n (cellsOf S)) (hl : S.length = n) {i : Nat} (hi : i < n) :
    ∃ g cap, v = .slice (some ⟨g, 0, none⟩) n cap ∧ base ≤ g ∧ w.cell? ⟨g, i * 3, none⟩ = some (.int .i64 ((S.getD i stp0).op : Nat)) ∧ w.frozen? ⟨g, i * 3, none⟩ = false ∧
      (w.setCell ⟨g, i * 3, none⟩ (.int .i64 3)).ownsRow base e 3 v n (cellsOf (S.set i ⟨3, (S.getD i stp0).key, (S.getD i stp0).val⟩)) := by
  obtain ⟨h1, h2⟩ := h
  rcases h2 with ⟨h2, h3⟩ | ⟨g, cap, cur, hv, hg, hh, hn, hm, hs, ht⟩
  · omega
  · have hb : Blk w g cur e := hh
    have hc : cur[i * 3]? = (cellsOf S)[i * 3]? := by
      have h3 : (cur.toList.take (n * 3))[i * 3]? = (cellsOf S)[i * 3]? := by rw [ht]
      rw [List.getElem?_take, if_pos (by omega), Array.getElem?_toList] at h3
      exact h3
    refine ⟨g, cap, hv, hg, hb.cell (hc.trans (cellsOf_at S i (by omega)).1), hb.free _, by rw [← cellsOf_set S i (by omega), List.length_set]; exact h1, Or.inr ⟨g, cap, cur.setIfInBounds (i * 3) (.int .i64 3), hv, hg, hb.set _ _, hn, hm, by simpa using hs, ?_⟩⟩
    rw [← cellsOf_set S i (by omega), ← ht, Array.toList_setIfInBounds, List.take_set]

set_option maxRecDepth 100000 in
set_option maxHeartbeats 2000000 in
theorem Steps_any {w : World} {so : Option Addr} {n cp : Nat} (hS : Raws w so n cp) (hn : n ≤ 2147483647) :
    Calls Try.prog 6 #[.slice so n cp] w fun e w' => ∃ v S, e = .returned v ∧ w'.ownsRow w.heap.size 26 3 v S.length (cellsOf S) ∧ Good S ∧ Below w.heap.size w w' := by
  obtain ⟨i0, hi, hz0, hz1, hz2⟩ := info_parts2 info26
  have HI : Hid (Try.prog.info? 26 = some i0 ∧ i0.zero = some (.agg #[.int .i64 0, .int .u64 0, .int .u64 0]) ∧ i0.size = 3 ∧ i0.bytes = 24) := ⟨hi, hz0, hz1, hz2⟩
  clear hi hz0 hz1 hz2
  have HS := Lib.hid hS
  have hcp := hS.1
  clear hS
  go_enter Try.func6, Try.ntmps6
  go_wp2_with fail
  go_loopw [3, 4] (fun lv iv wr => ∃ (i : Nat) (S : List Stp), i ≤ n ∧ i ≤ 200 ∧ S.length = i ∧ iv = .int .i64 i ∧ Hid (wr.ownsRow w.heap.size 26 3 lv i (cellsOf S) ∧ Good S ∧ Below w.heap.size w wr)) (fun _ iv _ => 200 - (intOf iv).toNat)
  case atStart => exact ⟨0, [], by omega, by omega, rfl, rfl, World.ownsRow_nil _ _ _ _, ⟨by simp, fun i hi => absurd hi (by simp)⟩, Below.refl _ _⟩
  case round =>
    obtain ⟨i, S, hi, hi2, hsl, rfl, hR⟩ := hrel
    have HR : Hid (wr.ownsRow w.heap.size 26 3 _ i (cellsOf S) ∧ Good S ∧ Below w.heap.size w wr) := hR
    clear hR
    by_cases hin : i < n
    · by_cases hi3 : i < 200
      · obtain ⟨b, o, rfl, hc⟩ := HS.out.2 (by omega)
        obtain ⟨z, k, v, c0, c1, c2, hz1, hz2, hk, hv⟩ := hc i hin
        have hlt := cell_lt c0
        rw [← HR.out.2.2.cell hlt] at c0
        rw [← HR.out.2.2.cell (cell_lt c1)] at c1
        rw [← HR.out.2.2.cell (cell_lt c2)] at c2
        clear hc hlt
        go_wp2_with fail
        have k0 : (0 : Int) ≤ (i : Int) := by omega
        have k1 : (i : Int) < (n : Int) := by omega
        have k2 : ((i : Int)).toNat = i := by omega
        obtain ⟨r, hr⟩ : ∃ r, r = wrap64 (1 + z.tmod 6) := ⟨_, rfl⟩
        have hr1 : -4 ≤ r ∧ r ≤ 6 := by
          have h1 := Int.tmod_lt_of_pos z (b := 6) (by decide)
          have h2 : -6 < z.tmod 6 := by
            have := Int.tmod_lt_of_pos (-z) (b := 6) (by decide)
            rw [Int.neg_tmod] at this
            omega
          rw [hr]
          simp only [wrap64]
          omega
        have hal : Below wr.heap.size wr (wr.alloc (.cells #[.int .i64 0, .int .u64 0, .int .u64 0] 26)) := (Below.refl _ _).alloc (Nat.le_refl _) _
        have a0 := (hal.cell (cell_lt c0)).trans c0
        have a1 := (hal.cell (cell_lt c1)).trans c1
        have a2 := (hal.cell (cell_lt c2)).trans c2
        clear hal
        go_region
        clear a0 a1 a2
        rw [← hr]
        clear k0 k1 k2 hr hz1 hz2
        clear c0 c1 c2
        by_cases hr3 : r < 1
        · have HQ0 : Hid (Good (S ++ [⟨1, k, v⟩])) := HR.out.2.1.snoc (by omega) (by omega) (by omega) hk hv
          go_wp2_with (at_builtin; go_must (refine wpList_append_own_at _ rfl _ _ 24 rfl w.heap.size 26 i0 (.agg #[.int .i64 0, .int .u64 0, .int .u64 0]) 3 24 Try.underlying24 HI.out.1 HI.out.2.1 HI.out.2.2.1 HI.out.2.2.2 rfl (by decide) _ _ _ rfl (show World.ownsRow _ _ _ _ _ _ _ from (HR.out.1.alloc (.cells #[.int .i64 1, .int .u64 k, .int .u64 v] 26)).alloc (.cells #[.int .i64 1, .int .u64 k, .int .u64 v] 26)) ⟨wr.heap.size + 1, 0, none⟩ 1 1 [.int .i64 1, .int .u64 k, .int .u64 v] rfl rfl ?c1 ?c2 ?c3 ?c4 ?c5 ?_))
          case c1 => exact cells_new (wr.alloc _) _ _ _ (by simp)
          case c2 => first | exact ⟨rfl, rfl, rfl⟩ | (intro u hu; simp at hu; rcases hu with rfl | rfl | rfl <;> rfl)
          case c3 => first | omega | (unfold maxLen; omega)
          case c4 => omega
          case c5 => have := HR.out.2.2.size; first | omega | (simp; omega)
          intro v' w3 hown' hgrow _ hblk
          have HQ : Hid (w3.ownsRow w.heap.size 26 3 v' (i + 1) (cellsOf (S ++ [⟨1, k, v⟩])) ∧ Good (S ++ [⟨1, k, v⟩]) ∧ Below w.heap.size w w3) := by
            refine ⟨by rw [cellsOf_append]; exact hown', HQ0.out, HR.out.2.2.trans ?_⟩
            have hs := HR.out.2.2.size
            refine (((Below.refl _ _).alloc hs _).alloc (by simp; omega) (.cells #[.int .i64 1, .int .u64 k, .int .u64 v] 26)).trans ((Below.refl _ _).grown (show World.grownBy ((wr.alloc (.cells #[.int .i64 1, .int .u64 k, .int .u64 v] 26)).alloc (.cells #[.int .i64 1, .int .u64 k, .int .u64 v] 26)) w3 _ from ⟨hgrow.os, hgrow.tape, hgrow.output, hgrow.size, hgrow.block⟩) (by simp; omega) ?_)
            intro j hj
            have := (own_lt HR.out.1 hj)
            omega
          obtain ⟨so2, cq, rfl⟩ := own_shape hown'
          clear hown' hgrow hblk HQ0
          go_wp2_with fail
          go_roundw
          case rel => exact ⟨i + 1, _, by omega, by omega, by simp; omega, by go_num, HQ⟩
          case measure => simp [intOf]; omega
        · obtain ⟨q, hq⟩ : ∃ q : Nat, r = q := ⟨r.toNat, by omega⟩
          subst hq
          have HQ0 : Hid (Good (S ++ [⟨q, k, v⟩])) := HR.out.2.1.snoc (by omega) (by omega) (by omega) hk hv
          go_wp2_with (at_builtin; go_must (refine wpList_append_own_at _ rfl _ _ 24 rfl w.heap.size 26 i0 (.agg #[.int .i64 0, .int .u64 0, .int .u64 0]) 3 24 Try.underlying24 HI.out.1 HI.out.2.1 HI.out.2.2.1 HI.out.2.2.2 rfl (by decide) _ _ _ rfl (show World.ownsRow _ _ _ _ _ _ _ from (HR.out.1.alloc (.cells #[.int .i64 (q : Nat), .int .u64 k, .int .u64 v] 26)).alloc (.cells #[.int .i64 (q : Nat), .int .u64 k, .int .u64 v] 26)) ⟨wr.heap.size + 1, 0, none⟩ 1 1 [.int .i64 (q : Nat), .int .u64 k, .int .u64 v] rfl rfl ?d1 ?d2 ?d3 ?d4 ?d5 ?_))
          case d2 => first | exact ⟨rfl, rfl, rfl⟩ | (intro u hu; simp at hu; rcases hu with rfl | rfl | rfl <;> rfl)
          case d3 => first | omega | (unfold maxLen; omega)
          case d4 => omega
          case d5 => have := HR.out.2.2.size; first | omega | (simp; omega)
          intro v' w3 hown' hgrow _ hblk
          have HQ : Hid (w3.ownsRow w.heap.size 26 3 v' (i + 1) (cellsOf (S ++ [⟨q, k, v⟩])) ∧ Good (S ++ [⟨q, k, v⟩]) ∧ Below w.heap.size w w3) := by
            refine ⟨by rw [cellsOf_append]; exact hown', HQ0.out, HR.out.2.2.trans ?_⟩
            have hs := HR.out.2.2.size
            refine (((Below.refl _ _).alloc hs _).alloc (by simp; omega) (.cells #[.int .i64 (q : Nat), .int .u64 k, .int .u64 v] 26)).trans ((Below.refl _ _).grown (show World.grownBy ((wr.alloc (.cells #[.int .i64 (q : Nat), .int .u64 k, .int .u64 v] 26)).alloc (.cells #[.int .i64 (q : Nat), .int .u64 k, .int .u64 v] 26)) w3 _ from ⟨hgrow.os, hgrow.tape, hgrow.output, hgrow.size, hgrow.block⟩) (by simp; omega) ?_)
            intro j hj
            have := (own_lt HR.out.1 hj)
            omega
          obtain ⟨so2, cq, rfl⟩ := own_shape hown'
          clear hown' hgrow hblk HQ0
          go_wp2_with fail
          go_roundw
          case rel => exact ⟨i + 1, _, by omega, by omega, by simp; omega, by go_num, HQ⟩
          case measure => simp [intOf]; omega
      · have HT := Lib.hid (Twice_any (w := wr) (Stps.of_own (by rw [hsl]; exact HR.out.1)) HR.out.2.1)
        obtain ⟨so2, cq, rfl⟩ := own_shape HR.out.1
        go_wp2_with fail
        refine HT.out.mono ?_
        rintro e w2 ⟨bb, d, rfl, hw2⟩
        have H2 : Hid (w2.ownsRow w.heap.size 26 3 (.slice so2 i cq) i (cellsOf S) ∧ Good S ∧ Below w.heap.size w w2) := by
          rw [hw2]; exact ⟨HR.out.1, HR.out.2.1, below_drewN HR.out.2.2 d⟩
        clear hw2 HR HT
        cases bb
        · go_wp2_with fail
          go_ret
          exact ⟨_, S, rfl, by rw [hsl]; exact H2.out.1, H2.out.2⟩
        · go_wp2_with fail
          go_loopw [6] (fun iv wr => ∃ (j : Nat) (S : List Stp), j ≤ i ∧ S.length = i ∧ iv = .int .i64 j ∧ Hid (wr.ownsRow w.heap.size 26 3 (.slice so2 i cq) i (cellsOf S) ∧ Good S ∧ Below w.heap.size w wr)) (fun iv _ => i - (intOf iv).toNat)
          case atStart => exact ⟨0, S, by omega, hsl, rfl, H2⟩
          case round =>
            clear H2 hsl
            obtain ⟨j, S, hj, hsl, rfl, hR⟩ := hrel
            have HR : Hid (wr.ownsRow w.heap.size 26 3 (.slice so2 i cq) i (cellsOf S) ∧ Good S ∧ Below w.heap.size w wr) := hR
            clear hR
            by_cases hji : j < i
            · obtain ⟨g, cap, hv, hg, y0, y1, hset⟩ := own_op HR.out.1 hsl hji
              simp only [Value.slice.injEq] at hv
              obtain ⟨rfl, _, rfl⟩ := hv
              obtain ⟨x, hx⟩ : ∃ x, x = S.getD j stp0 := ⟨_, rfl⟩
              rw [← hx] at y0
              have HSet : Hid ((wr.setCell ⟨g, j * 3, none⟩ (.int .i64 3)).ownsRow w.heap.size 26 3 (.slice (some ⟨g, 0, none⟩) i cq) i (cellsOf (S.set j ⟨3, (S.getD j stp0).key, (S.getD j stp0).val⟩)) ∧ Good (S.set j ⟨3, (S.getD j stp0).key, (S.getD j stp0).val⟩) ∧ Below w.heap.size w (wr.setCell ⟨g, j * 3, none⟩ (.int .i64 3))) :=
                ⟨hset, HR.out.2.1.set (by omega), HR.out.2.2.setCell hg _⟩
              clear hx hset
              by_cases ho : 4 < x.op
              · go_wp2_with fail
                go_roundw
                case rel => exact ⟨j + 1, _, by omega, by simpa using hsl, by go_num, HSet⟩
                case measure => simp [intOf]; omega
              · go_wp2_with fail
                go_roundw
                case rel => exact ⟨j + 1, S, by omega, hsl, by go_num, HR⟩
                case measure => simp [intOf]; omega
            · go_wp2_with fail
              go_ret
              exact ⟨_, S, rfl, by rw [hsl]; exact HR.out.1, HR.out.2⟩
    · have HT := Lib.hid (Twice_any (w := wr) (Stps.of_own (by rw [hsl]; exact HR.out.1)) HR.out.2.1)
      obtain ⟨so2, cq, rfl⟩ := own_shape HR.out.1
      go_wp2_with fail
      refine HT.out.mono ?_
      rintro e w2 ⟨bb, d, rfl, hw2⟩
      have H2 : Hid (w2.ownsRow w.heap.size 26 3 (.slice so2 i cq) i (cellsOf S) ∧ Good S ∧ Below w.heap.size w w2) := by
        rw [hw2]; exact ⟨HR.out.1, HR.out.2.1, below_drewN HR.out.2.2 d⟩
      clear hw2 HR HT
      cases bb
      · go_wp2_with fail
        go_ret
        exact ⟨_, S, rfl, by rw [hsl]; exact H2.out.1, H2.out.2⟩
      · go_wp2_with fail
        go_loopw [6] (fun iv wr => ∃ (j : Nat) (S : List Stp), j ≤ i ∧ S.length = i ∧ iv = .int .i64 j ∧ Hid (wr.ownsRow w.heap.size 26 3 (.slice so2 i cq) i (cellsOf S) ∧ Good S ∧ Below w.heap.size w wr)) (fun iv _ => i - (intOf iv).toNat)
        case atStart => exact ⟨0, S, by omega, hsl, rfl, H2⟩
        case round =>
          clear H2 hsl
          obtain ⟨j, S, hj, hsl, rfl, hR⟩ := hrel
          have HR : Hid (wr.ownsRow w.heap.size 26 3 (.slice so2 i cq) i (cellsOf S) ∧ Good S ∧ Below w.heap.size w wr) := hR
          clear hR
          by_cases hji : j < i
          · obtain ⟨g, cap, hv, hg, y0, y1, hset⟩ := own_op HR.out.1 hsl hji
            simp only [Value.slice.injEq] at hv
            obtain ⟨rfl, _, rfl⟩ := hv
            obtain ⟨x, hx⟩ : ∃ x, x = S.getD j stp0 := ⟨_, rfl⟩
            rw [← hx] at y0
            have HSet : Hid ((wr.setCell ⟨g, j * 3, none⟩ (.int .i64 3)).ownsRow w.heap.size 26 3 (.slice (some ⟨g, 0, none⟩) i cq) i (cellsOf (S.set j ⟨3, (S.getD j stp0).key, (S.getD j stp0).val⟩)) ∧ Good (S.set j ⟨3, (S.getD j stp0).key, (S.getD j stp0).val⟩) ∧ Below w.heap.size w (wr.setCell ⟨g, j * 3, none⟩ (.int .i64 3))) :=
              ⟨hset, HR.out.2.1.set (by omega), HR.out.2.2.setCell hg _⟩
            clear hx hset
            by_cases ho : 4 < x.op
            · go_wp2_with fail
              go_roundw
              case rel => exact ⟨j + 1, _, by omega, by simpa using hsl, by go_num, HSet⟩
              case measure => simp [intOf]; omega
            · go_wp2_with fail
              go_roundw
              case rel => exact ⟨j + 1, S, by omega, hsl, by go_num, HR⟩
              case measure => simp [intOf]; omega
          · go_wp2_with fail
            go_ret
            exact ⟨_, S, rfl, by rw [hsl]; exact HR.out.1, HR.out.2⟩
end Go.Proofs.Ytiiobifljflkiaa
