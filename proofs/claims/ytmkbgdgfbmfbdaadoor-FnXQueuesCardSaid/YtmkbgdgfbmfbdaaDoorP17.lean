/- dxTurned: the same numbers in another order. -/
import Derived.Test.YtmkbgdgfbmfbdaaDoorP16
namespace Go.Proofs.YtmkbgdgfbmfbdaaDoor
open Go.RowKit

theorem perm_set2 {α : Type} [DecidableEq α] {xs : List α} {i j : Nat} {x y : α} (hi : xs[i]? = some x) (hj : xs[j]? = some y) : ((xs.set i y).set j x).Perm xs := by
  obtain ⟨l1, e1⟩ := List.getElem?_eq_some_iff.1 hi
  obtain ⟨l2, e2⟩ := List.getElem?_eq_some_iff.1 hj
  rw [List.perm_iff_count]
  intro a
  rw [List.count_set (by simpa using l2), List.count_set l1]
  have h3 : (xs.set i y)[j]'(by simpa using l2) = y := by
    rw [List.getElem_set]
    split
    · rfl
    · exact e2
  rw [h3, e1]
  have hx : (if x == a then 1 else 0) ≤ xs.count a := by
    split
    · rename_i h
      have : x = a := by simpa using h
      subst this
      rw [← e1]
      exact List.count_pos_iff.2 (List.getElem_mem l1)
    · omega
  omega
set_option maxRecDepth 100000 in
set_option maxHeartbeats 2000000 in
theorem reverse_any {w : World} {B g n cp : Nat} {xs : List Int} (hr : w.ownsRow B 37 1 (.slice (some ⟨g, 0, none⟩) n cp) n (xs.map (Value.int .i16))) (hn : n ≤ 100) :
    Calls Tryd.prog 21 #[.slice (some ⟨g, 0, none⟩) n cp] w fun e w' => e = .returned (.tuple #[]) ∧ ∃ ys : List Int, ys.Perm xs ∧ w'.ownsRow B 37 1 (.slice (some ⟨g, 0, none⟩) n cp) n (ys.map (Value.int .i16)) ∧ Only [g] w w' := by
  have HR := Lib.hid hr
  have hxl : xs.length = n := by have := hr.1; simpa using this
  have HL := Lib.hid hxl
  clear hr hxl
  go_enter Tryd.func21, Tryd.ntmps21
  go_wp2_with fail
  go_loopw [2, 3] (fun iv jv wr => ∃ (i : Nat) (j : Int) (ys : List Int), iv = .int .i64 (i : Nat) ∧ jv = .int .i64 j ∧ j < n ∧ (-1) ≤ j ∧ i ≤ n ∧ Hid (ys.Perm xs ∧ wr.ownsRow B 37 1 (.slice (some ⟨g, 0, none⟩) n cp) n (ys.map (Value.int .i16)) ∧ Only [g] w wr)) (fun iv _ _ => n - (intOf iv).toNat)
  case atStart => exact ⟨0, (n : Int) - 1, xs, rfl, rfl, by omega, by omega, by omega, List.Perm.refl _, HR.out, Only.refl _ _⟩
  case round =>
    obtain ⟨i, j0, ys, rfl, rfl, hj1, hj2, hi1, hR⟩ := hrel
    have HR2 : Hid (ys.Perm xs ∧ wr.ownsRow B 37 1 (.slice (some ⟨g, 0, none⟩) n cp) n (ys.map (Value.int .i16)) ∧ Only [g] w wr) := hR
    clear hR
    by_cases hij : (i : Int) < j0
    · obtain ⟨j, rfl⟩ : ∃ j : Nat, j0 = (j : Int) := ⟨j0.toNat, by omega⟩
      have hijn : i < j := by omega
      have hne : ¬ i = j := by omega
      have hne2 : ¬ j = i := by omega
      have z0 : (0 : Int) ≤ (i : Int) := by omega
      have z1 : (0 : Int) ≤ (j : Int) := by omega
      have z2 : (i : Int) < (n : Int) := by omega
      have hyl : ys.length = n := by rw [HR2.out.1.length_eq, HL.out]
      obtain ⟨x, hx⟩ : ∃ x, ys[i]? = some x := ⟨_, List.getElem?_eq_getElem (by omega)⟩
      obtain ⟨y, hy⟩ : ∃ x, ys[j]? = some x := ⟨_, List.getElem?_eq_getElem (by omega)⟩
      obtain ⟨c1, f1⟩ := own_cell (i := i) (u := .int .i16 x) HR2.out.2.1 (by rw [List.getElem?_map, hx]; rfl)
      obtain ⟨c2, f2⟩ := own_cell (i := j) (u := .int .i16 y) HR2.out.2.1 (by rw [List.getElem?_map, hy]; rfl)
      have HXY : Hid (ys[i]? = some x ∧ ys[j]? = some y) := ⟨hx, hy⟩
      have HE : Hid (((ys.set i y).set j x).Perm xs ∧ ((((wr.setCell ⟨g, i, none⟩ (.int .i16 y)).setCell ⟨g, j, none⟩ (.int .i16 x)).drew).ownsRow B 37 1 (.slice (some ⟨g, 0, none⟩) n cp) n (((ys.set i y).set j x).map (Value.int .i16))) ∧ Only [g] w (((wr.setCell ⟨g, i, none⟩ (.int .i16 y)).setCell ⟨g, j, none⟩ (.int .i16 x)).drew)) := by
        refine ⟨(perm_set2 hx hy).trans HR2.out.1, ?_, ((HR2.out.2.2.setCell (Or.inl (by simp)) _).setCell (Or.inl (by simp)) _).drew⟩
        rw [List.map_set, List.map_set]
        exact own_set (own_set HR2.out.2.1 (by omega)) (by omega)
      clear hx hy hyl
      go_wp2_with fail
      go_region
      all_goals
        go_wp2_with fail
        go_roundw
        case rel => exact ⟨i + 1, (j : Int) - 1, _, by go_num, by go_num, by omega, by omega, by omega, HE.out⟩
        case measure => simp [intOf]; omega
    · go_wp2_with fail
      go_end0
      exact ⟨rfl, ys, HR2.out⟩
end Go.Proofs.YtmkbgdgfbmfbdaaDoor
