/- get: so many are popped. -/
import Derived.Test.YtmkbgdgfbmfbdaaDoorP0
import Derived.Test.YtmkbgdgfbmfbdaaDoorP3
import Derived.Laws.MakeOwn
namespace Go.Proofs.YtmkbgdgfbmfbdaaDoor
open Go.RowKit

def keysOf (l : List Item) : List Int := l.map (·.1)
theorem Row.under {B K : Nat} {w w' : World} {v : Value} {xs : List Item} (h : Row B w v xs) (hb : Below K w w') (hk : ∀ k ∈ rowOf v, k < K) : Row B w' v xs := by
  obtain ⟨h1, h | ⟨g, cap, cur, hv, hge, hh, r⟩⟩ := h
  · exact ⟨h1, Or.inl h⟩
  · exact ⟨h1, Or.inr ⟨g, cap, cur, hv, hge, (hb.block g (hk g (by rw [hv]; simp [rowOf, Value.ownBlock]))).trans hh, r⟩⟩
theorem Row.rows_lt {B : Nat} {w : World} {v : Value} {xs : List Item} (h : Row B w v xs) : ∀ k ∈ rowOf v, k < w.heap.size ∧ B ≤ k := fun k hk => by
  obtain ⟨hge, cur, hh⟩ := own_block h (k := k) (by simpa [rowOf] using hk)
  exact ⟨Blk.lt (show Blk w k cur _ from hh), hge⟩
theorem Only.grow_below {M : List Nat} {a b c : World} (h : Only M a b) (k : Below a.heap.size b c) : Only M a c :=
  ⟨k.os.trans h.os, k.tape.trans h.tape, k.output.trans h.output, Nat.le_trans h.size k.size, fun i hi hm => (k.block i hi).trans (h.block i hi hm)⟩
/-- How far the popping is. -/
structure Popped (xs done ys : List Item) : Prop where
  heap : Heap ys
  perm : (done ++ ys).Perm xs
  asc : Asc (keysOf done)
  le : ∀ a ∈ done, ∀ b ∈ ys, a.1 ≤ b.1
theorem Popped.start {xs : List Item} (h : Heap xs) : Popped xs [] xs := ⟨h, List.Perm.refl _, List.Pairwise.nil, by simp⟩
theorem Popped.len {xs done ys : List Item} (h : Popped xs done ys) : done.length + ys.length = xs.length := by rw [← h.perm.length_eq, List.length_append]
theorem Popped.next {xs done ys zs : List Item} {y : Item} (h : Popped xs done ys) (hy : ys[0]? = some y) (hz : Heap zs) (hp : (y :: zs).Perm ys) : Popped xs (done ++ [y]) zs := by
  refine ⟨hz, ?_, ?_, ?_⟩
  · rw [List.append_assoc]
    exact ((List.perm_append_left_iff done).2 hp).trans h.perm
  · show List.Pairwise _ _
    rw [keysOf, List.map_append]
    refine List.pairwise_append.2 ⟨h.asc, by simp, fun a ha b hb => ?_⟩
    obtain ⟨c, hc, rfl⟩ := List.mem_map.1 ha
    simp at hb
    rw [hb]
    exact h.le c hc y (List.mem_of_getElem? hy)
  · intro a ha b hb
    have hbm : b ∈ ys := hp.mem_iff.1 (List.mem_cons_of_mem _ hb)
    rcases List.mem_append.1 ha with ha | ha
    · exact h.le a ha b hbm
    · simp at ha
      rw [ha]
      exact h.heap.min hy b hbm
theorem Popped.done {xs done : List Item} (h : Popped xs done []) : done.Perm xs := by have := h.perm; rwa [List.append_nil] at this

def GetPost (B q m : Nat) (dup : Bool) (v : Value) (xs : List Item) (w : World) (e : Ending) (w' : World) : Prop :=
  ∃ sl ys v', e = .returned sl ∧ Row w.heap.size w' sl ys ∧ ys.Perm xs ∧ Asc (keysOf ys) ∧ QBlk w' q v' m dup ∧ Row B w' v' [] ∧ rowOf v' = rowOf v ∧ Only (q :: rowOf v) w w'

set_option maxRecDepth 100000 in
set_option maxHeartbeats 4000000 in
theorem get_any {w : World} {B q m N : Nat} {dup : Bool} {v : Value} {xs : List Item} (hb : QBlk w q v m dup) (hr : Row B w v xs) (hh : Heap xs) (hl : xs.length ≤ N) (hN : N ≤ 1000) :
    Calls Tryd.prog 46 #[.pointer (some ⟨q, 0, none⟩), .int .i64 N] w fun e w' => GetPost B q m dup v xs w e w' := by
  obtain ⟨i0, hi, hz0, hz1, hz2⟩ := info_at infoI
  have HI : Hid (Tryd.prog.info? 85 = some i0 ∧ i0.zero = some .nilIface ∧ i0.size = 1 ∧ i0.bytes = 16) := ⟨hi, hz0, hz1, hz2⟩
  obtain ⟨W, hmk, hown, hgr⟩ := run_make_own (P := Tryd.prog) (w := w) w.heap.size 70 85 i0 .nilIface 1 Tryd.underlying70 hi hz0 hz1 .i64 .i64 N (by rw [hz2]; omega) (by unfold maxLen; omega) (Nat.le_refl _)
  have hbelow : Below w.heap.size w W := (Below.refl _ _).grown hgr (Nat.le_refl _) (by intro k hk; cases hk)
  have HQ : Hid (QBlk W q v m dup ∧ Row B W v xs ∧ Heap xs ∧ W.ownsRow w.heap.size 85 1 (.slice (some ⟨w.heap.size, 0, none⟩) 0 N) 0 [] ∧ Below w.heap.size w W) := ⟨hb.below hbelow, Row.below hr hbelow, hh, hown, hbelow⟩
  have HL := Lib.hid hl
  have HW : Hid (q < w.heap.size ∧ ∀ j ∈ rowOf v, j < w.heap.size) := ⟨Blk.lt hb, fun j hj => (hr.rows_lt j hj).1⟩
  clear hb hr hh hown hgr hbelow hl hi hz0 hz1 hz2
  go_enter Tryd.func46, Tryd.ntmps46
  go_wp2_with fail
  go_loopw [5, 6] (fun sv iv wr => ∃ (i : Nat) (done ys : List Item) (v' : Value), iv = .int .i64 (i : Nat) ∧ i ≤ N ∧ done.length = i ∧ Hid (Popped xs done ys ∧ Row w.heap.size wr sv done ∧ QBlk wr q v' m dup ∧ Row B wr v' ys ∧ rowOf v' = rowOf v ∧ Only (q :: rowOf v) w wr)) (fun _ iv _ => N - (intOf iv).toNat)
  case atStart =>
    exact ⟨0, [], xs, v, rfl, by omega, rfl, Popped.start HQ.out.2.2.1, HQ.out.2.2.2.1, HQ.out.1, HQ.out.2.1, rfl, Only.of_below HQ.out.2.2.2.2⟩
  case round =>
    obtain ⟨i, done, ys, v', rfl, hiN, hdl, hR⟩ := hrel
    have HR3 : Hid (Popped xs done ys ∧ Row w.heap.size wr u5 done ∧ QBlk wr q v' m dup ∧ Row B wr v' ys ∧ rowOf v' = rowOf v ∧ Only (q :: rowOf v) w wr) := hR
    clear hR
    have HD := Lib.hid hdl
    have hlen := HR3.out.1.len
    have HLEN := Lib.hid hlen
    clear hdl
    obtain ⟨so, cp, rfl⟩ := own_shape HR3.out.2.2.2.1
    have c0 : wr.cell? ⟨q, 0, none⟩ = some (.slice so ys.length cp) := Blk.cell HR3.out.2.2.1 rfl
    by_cases hlt : i < N
    · have zlt : (i : Int) < (N : Int) := by omega
      cases ys with
      | nil =>
        simp only [List.length_nil] at c0
        clear hlen
        go_wp2_with fail
        go_ret
        exact ⟨_, done, _, rfl, HR3.out.2.1, HR3.out.1.done, HR3.out.1.asc, HR3.out.2.2.1, HR3.out.2.2.2.1, HR3.out.2.2.2.2.1, HR3.out.2.2.2.2.2⟩
      | cons y zs =>
        obtain ⟨g, cp', hso⟩ := own_some HR3.out.2.2.2.1 (by simp)
        simp only [Value.slice.injEq, List.length_cons] at hso
        obtain ⟨rfl, _, rfl⟩ := hso
        obtain ⟨k, hk⟩ : ∃ k, k = zs.length := ⟨_, rfl⟩
        simp only [List.length_cons] at c0 hlen
        rw [← hk] at c0 hlen
        have hHR := HR3.out
        simp only [List.length_cons] at hHR
        rw [← hk] at hHR
        have HR4 := Lib.hid hHR
        have hk2 : k ≤ 1000 := by have := HL.out; omega
        have HK := Lib.hid hk
        clear hHR hlen hk HR3
        obtain ⟨y1, y2⟩ := y
        go_wp2_with fail
        refine (pop_any (xs := (y1, y2) :: zs) (y := (y1, y2)) HR4.out.2.2.1 HR4.out.2.2.2.1 HR4.out.1.heap (by simp [HK.out]) hk2 rfl).mono ?_
        rintro e w2 ⟨rfl, ys', hq2, hr2, hh2, hp2, ho2⟩
        rw [show pit (y1, y2) = .iface 76 (.agg #[.int .i64 y1, .int .i64 y2]) from rfl]
        have HQL : Hid (q < w.heap.size ∧ ∀ j ∈ rowOf (.slice (some ⟨g, 0, none⟩) (k + 1) cp), j < w.heap.size) := ⟨HW.out.1, fun j hj => HW.out.2 j (by rw [← HR4.out.2.2.2.2.1]; exact hj)⟩
        have hs2 : w2.ownsRow w.heap.size 85 1 u5 done.length (done.map pit) := own_same HR4.out.2.1 (fun j h1 h2 => ho2.block j h2 (fun h3 => by
          simp at h3
          rcases h3 with h3 | h3
          · have := HQL.out.1; omega
          · have := HQL.out.2 j (by simp [rowOf, Value.ownBlock, h3]); omega))
        have hsz : w.heap.size ≤ w2.heap.size := Nat.le_trans HR4.out.2.2.2.2.2.size ho2.size
        obtain ⟨t5, d5, rfl⟩ := own_shape hs2
        have hgr : g ∈ rowOf v := by rw [← HR4.out.2.2.2.2.1]; simp [rowOf, Value.ownBlock]
        have HP : Hid (Popped xs (done ++ [(y1, y2)]) ys' ∧ w2.ownsRow w.heap.size 85 1 (.slice t5 done.length d5) done.length (done.map pit) ∧ QBlk w2 q (.slice (some ⟨g, 0, none⟩) k cp) m dup ∧ Row B w2 (.slice (some ⟨g, 0, none⟩) k cp) ys' ∧ Only (q :: rowOf v) w w2) := by
          refine ⟨HR4.out.1.next rfl hh2 hp2, hs2, hq2, hr2, HR4.out.2.2.2.2.2.trans (ho2.mono (fun j _ hj => ?_))⟩
          simp at hj ⊢
          rcases hj with h | h
          · exact Or.inl h
          · rw [h]; exact Or.inr hgr
        clear hs2 hq2 hr2 hh2 hp2 ho2 hgr c0
        have hdl : done.length ≤ 1000 := by have := HD.out; omega
        go_wp2_with (at_builtin; go_must (refine wpList_append_own_at _ rfl (.tmp 19) (.tmp 22) 70 rfl w.heap.size 85 i0 .nilIface 1 16 Tryd.underlying70 HI.out.1 HI.out.2.1 HI.out.2.2.1 HI.out.2.2.2 rfl (by decide) (.slice t5 done.length d5) done.length _ rfl (HP.out.2.1.alloc _) ⟨w2.heap.size, 0, none⟩ 1 1 [.iface 76 (.agg #[.int .i64 y1, .int .i64 y2])] rfl rfl ?c1 ?c2 ?c3 ?c4 ?c5 ?_))
        case c1 => exact one_cell
        case c2 => intro u hu; simp at hu; subst hu; rfl
        case c3 => unfold maxLen; omega
        case c4 => omega
        case c5 => simp; omega
        intro v1 w3 hown hgrow _ _
        have hb3 : Below w.heap.size w2 w3 := own_grown HP.out.2.1 hgrow hsz
        have hqk := HQL.out.1
        have HE : Hid (Popped xs (done ++ [(y1, y2)]) ys' ∧ Row w.heap.size w3 v1 (done ++ [(y1, y2)]) ∧ QBlk w3 q (.slice (some ⟨g, 0, none⟩) k cp) m dup ∧ Row B w3 (.slice (some ⟨g, 0, none⟩) k cp) ys' ∧ rowOf (.slice (some ⟨g, 0, none⟩) k cp) = rowOf v ∧ Only (q :: rowOf v) w w3) := by
          refine ⟨HP.out.1, ?_, Blk.below HP.out.2.2.1 hb3 hqk, HP.out.2.2.2.1.under hb3 (fun j hj => HQL.out.2 j hj), HR4.out.2.2.2.2.1, ?_⟩
          · rw [Row, List.map_append, List.length_append]
            exact hown
          · exact HP.out.2.2.2.2.grow_below hb3
        clear hown hgrow hb3 hqk
        go_wp2_with fail
        go_roundw
        case rel => exact ⟨i + 1, done ++ [(y1, y2)], ys', _, rfl, by omega, by rw [List.length_append, HD.out]; rfl, HE.out⟩
        case measure => simp [intOf]; omega
    · have zlt : ¬ (i : Int) < (N : Int) := by omega
      clear hlen c0
      go_wp2_with fail
      go_ret
      obtain rfl : ys = [] := by
        have h1 := HLEN.out
        have h2 := HD.out
        have h3 := HL.out
        exact List.length_eq_zero_iff.1 (by omega)
      exact ⟨_, done, _, rfl, HR3.out.2.1, HR3.out.1.done, HR3.out.1.asc, HR3.out.2.2.1, HR3.out.2.2.2.1, HR3.out.2.2.2.2.1, HR3.out.2.2.2.2.2⟩
end Go.Proofs.YtmkbgdgfbmfbdaaDoor
