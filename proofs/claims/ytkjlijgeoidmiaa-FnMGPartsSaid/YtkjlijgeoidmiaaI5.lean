/- slices.Sort, Compact, IsSorted at int64, over rows of the call's own. -/
import Derived.Test.YtkjlijgeoidmiaaI4
namespace Go.Proofs.Ytkjlijgeoidmiaa
open Go.RowKit Go.Shelf Go.Lib Go.Sort

theorem own_grow {w : World} {B : Nat} {e : TypeId} {size : Nat} {v : Value} {n : Nat} {xs : List Value} (h : w.ownsRow B e size v n xs) (os : Array Obj) : (grow w os).ownsRow B e size v n xs :=
  own_same h fun k _ hk => by
    show (w.heap ++ os)[k]? = _
    rw [Array.getElem?_append_left hk]
theorem below_grow {B : Nat} {w0 w : World} (h : Below B w0 w) (hB : B ≤ w.heap.size) (os : Array Obj) : Below B w0 (grow w os) :=
  h.trans ⟨rfl, rfl, rfl, by simp [grow], fun k hk => by
    show (w.heap ++ os)[k]? = _
    rw [Array.getElem?_append_left (by omega)]⟩

theorem sort_any {w : World} {B g n cap : Nat} {xs : List Int} (hown : w.ownsRow B 2 1 (.slice (some ⟨g, 0, none⟩) n cap) n (xs.map (Value.int .i64))) (hB : B ≤ w.heap.size) (hn : n ≤ 1000) :
    Calls Try.prog 11 #[.slice (some ⟨g, 0, none⟩) n cap] w fun e w' => e = .returned (.tuple #[]) ∧ ∃ ys : List Int, ys.Pairwise (· ≤ ·) ∧ ys.Perm xs ∧ w'.ownsRow B 2 1 (.slice (some ⟨g, 0, none⟩) n cap) n (ys.map (Value.int .i64)) ∧ Below B w w' := by
  obtain ⟨g', cap', hv, hg, hlt, h1, h2, hl, hH⟩ := holds_of_ownsRow hown (by simp)
  simp only [Value.slice.injEq, Option.some.injEq, Addr.mk.injEq] at hv
  obtain ⟨⟨rfl, _, _⟩, _, rfl⟩ := hv
  have h := AnyG.slices_Sort_int (P := Try.prog) Try.sort64 g 0 cap xs w hH hlt (by omega)
  rw [hl] at h
  refine Calls.mono h ?_
  rintro e w' ⟨rfl, q, os, rfl⟩
  have hlen : (xs.mergeSort fun x y => decide (x ≤ y)).length = n := by rw [List.length_mergeSort]; exact hl
  refine ⟨rfl, xs.mergeSort fun x y => decide (x ≤ y), ?_, List.mergeSort_perm _ _, ?_, ?_⟩
  · have := List.pairwise_mergeSort (le := fun x y : Int => decide (x ≤ y)) (by intro a b c; simp; omega) (by intro a b; simp; omega) xs
    simpa using this
  · have := ownsRow_putRow (q := q) hown hlen (Nat.le_refl n)
    rw [List.take_of_length_le (by omega)] at this
    exact own_grow this os
  · exact below_grow (below_putRow (Below.refl _ _) hg) (by show B ≤ (putRow _ _ _ _ _).heap.size; simp [putRow, mapBlock, Sort.ahead]; exact hB) os

theorem compact_any {w : World} {B g n cap : Nat} {xs : List Int} (hown : w.ownsRow B 2 1 (.slice (some ⟨g, 0, none⟩) n cap) n (xs.map (Value.int .i64))) (hn : n ≤ 1000) :
    Calls Try.prog 12 #[.slice (some ⟨g, 0, none⟩) n cap] w fun e w' => e = .returned (.slice (some ⟨g, 0, none⟩) (Lib.compact xs).length cap) ∧ w'.ownsRow B 2 1 (.slice (some ⟨g, 0, none⟩) (Lib.compact xs).length cap) (Lib.compact xs).length ((Lib.compact xs).map (Value.int .i64)) ∧ Below B w w' := by
  obtain ⟨g', cap', hv, hg, hlt, h1, h2, hl, hH⟩ := holds_of_ownsRow hown (by simp)
  simp only [Value.slice.injEq, Option.some.injEq, Addr.mk.injEq] at hv
  obtain ⟨⟨rfl, _, _⟩, _, rfl⟩ := hv
  have h := AnyG.slices_Compact_int (P := Try.prog) Try.compact64 g 0 cap xs w hH (by omega) (by omega)
  have hc := compact_len xs
  rw [hl] at h
  refine Calls.mono h ?_
  rintro e w' ⟨rfl, q, rfl⟩
  refine ⟨rfl, ?_, below_putRow (Below.refl _ _) hg⟩
  have := ownsRow_putRow (q := q) hown (ys := Lib.compact xs ++ List.replicate (n - (Lib.compact xs).length) 0) (by simp; omega) (k := (Lib.compact xs).length) (by omega)
  rw [List.take_left] at this
  exact this

theorem sorted_any {w : World} {so : Option Addr} {n cap : Nat} {xs : List Int} (h : Ints w (.slice so n cap) xs) (hn : n ≤ 1000) (h0 : 0 < n) (ha : Asc xs) :
    Calls Try.prog 14 #[.slice so n cap] w fun e w' => e = .returned (.bool true) ∧ Below w.heap.size w w' := by
  have hln : xs.length = n := by have := h.len; rwa [List.length_map] at this
  obtain ⟨blk, off, rfl, hcc⟩ := h.cells h0
  have hA0 : xs.toArray.size = n := by rw [List.size_toArray]; exact hln
  have cc : ∀ i, i < xs.toArray.size → w.cell? ⟨blk, off + i, none⟩ = some ((Value.int .i64) xs.toArray[i]!) := fun i hi =>
    hcc i (.int .i64 xs.toArray[i]!) (by rw [List.getElem?_map, getElem!_pos _ _ (by omega), List.getElem_toArray, List.getElem?_eq_getElem (by omega)]; rfl)
  have h := AnyO.slices_IsSorted_int (P := Try.prog) Try.isSorted64 blk off cap xs.toArray w cc (by omega)
  rw [downOK_asc ha, hA0] at h
  refine Calls.mono h ?_
  rintro e w' ⟨rfl, q, rfl⟩
  exact ⟨rfl, below_drewN (Below.refl _ _) q⟩
end Go.Proofs.Ytkjlijgeoidmiaa
