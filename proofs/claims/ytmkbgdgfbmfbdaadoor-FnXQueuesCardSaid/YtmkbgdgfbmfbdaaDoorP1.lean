/- Items of a queue: compared; exchanged. -/
import Derived.Test.YtmkbgdgfbmfbdaaDoorMapOps
import Derived.Test.YtmkbgdgfbmfbdaaDoorRecKit
import Derived.Test.YtmkbgdgfbmfbdaaDoorRows
import Derived.WalkSpells
import Derived.WalkLawsBesides
import Derived.Recover
import Derived.BigRegion
namespace Go.Proofs.YtmkbgdgfbmfbdaaDoor
open Go.RowKit

abbrev Item := Int × Int
def pit (x : Item) : Value := .iface 76 (.agg #[.int .i64 x.1, .int .i64 x.2])
def ord (a b : Int) : Int := if a < b then -1 else if b < a then 1 else 0

set_option maxRecDepth 100000 in
theorem order_any (a b : Int) (w : World) : Calls Tryd.prog 66 #[.int .i64 a, .int .i64 b] w fun e w' => e = .returned (.int .i64 (ord a b)) ∧ w' = w := by
  by_cases h1 : a < b
  · have e : ord a b = -1 := by unfold ord; rw [if_pos h1]
    rw [e]
    go_enter Tryd.func66, Tryd.ntmps66
    go_wp2_with fail
    go_ret
    exact ⟨rfl, rfl⟩
  · by_cases h2 : b < a
    · have e : ord a b = 1 := by unfold ord; rw [if_neg h1, if_pos h2]
      rw [e]
      have d1 : decide (a < b) = false := decide_eq_false h1
      go_enter Tryd.func66, Tryd.ntmps66
      go_wp2_with fail
      go_ret
      exact ⟨rfl, rfl⟩
    · have e : ord a b = 0 := by unfold ord; rw [if_neg h1, if_neg h2]
      rw [e]
      have d1 : decide (a < b) = false := decide_eq_false h1
      have d2 : decide (b < a) = false := decide_eq_false h2
      go_enter Tryd.func66, Tryd.ntmps66
      go_wp2_with fail
      go_ret
      exact ⟨rfl, rfl⟩

set_option maxRecDepth 100000 in
set_option maxHeartbeats 1000000 in
theorem compare_any (x y : Item) (w : World) : Calls Tryd.prog 67 #[.agg #[.int .i64 x.1, .int .i64 x.2], pit y] w fun e w' => e = .returned (.int .i64 (ord x.1 y.1)) ∧ Below w.heap.size w w' := by
  have hta : ∀ w : World, (Instr.typeAssert (pit y) 85 76 false).run Tryd.prog w = .ok (.agg #[.int .i64 y.1, .int .i64 y.2]) w := fun _ => by kernel_rfl
  have hf1 : ∀ w : World, (Instr.field 76 (.agg #[.int .i64 y.1, .int .i64 y.2]) 0).run Tryd.prog w = .ok (.agg #[.int .i64 y.1, .int .i64 y.2]) w := fun _ => by kernel_rfl
  have hf2 : ∀ w : World, (Instr.field 48 (.agg #[.int .i64 y.1, .int .i64 y.2]) 0).run Tryd.prog w = .ok (.int .i64 y.1) w := fun _ => by kernel_rfl
  go_enter Tryd.func67, Tryd.ntmps67
  go_wp2_with fail
  go_quiet ((go_at_call 66; exact Calls.quiet_of_same (order_any _ _ _)))
  go_wp2_with fail
  go_ret
  exact ⟨rfl, ⟨rfl, rfl, rfl, by simp, fun k hk => Below.heap_alloc _ _ _ hk⟩⟩

abbrev Row (B : Nat) (w : World) (v : Value) (xs : List Item) : Prop := w.ownsRow B 85 1 v xs.length (xs.map pit)
theorem own_set {w : World} {B : Nat} {e : TypeId} {g n cap : Nat} {xs : List Value} {i : Nat} {u : Value} (h : w.ownsRow B e 1 (.slice (some ⟨g, 0, none⟩) n cap) n xs) (hi : i < n) :
    (w.setCell ⟨g, i, none⟩ u).ownsRow B e 1 (.slice (some ⟨g, 0, none⟩) n cap) n (xs.set i u) := by
  obtain ⟨h1, h | ⟨g', cap', cur, hv, hge, hh, h2, h3, h4, h5⟩⟩ := h
  · simp at h
  · simp only [Value.slice.injEq, Option.some.injEq, Addr.mk.injEq] at hv
    obtain ⟨⟨rfl, _, _⟩, _, rfl⟩ := hv
    have hb : Blk w g cur e := hh
    refine ⟨by simpa using h1, Or.inr ⟨g, cap, _, rfl, hge, hb.set i u, h2, h3, by simpa using h4, ?_⟩⟩
    rw [Array.toList_setIfInBounds, List.take_set, h5]
theorem own_cell {w : World} {B : Nat} {e : TypeId} {g n cap : Nat} {xs : List Value} {i : Nat} {u : Value} (h : w.ownsRow B e 1 (.slice (some ⟨g, 0, none⟩) n cap) n xs) (hi : xs[i]? = some u) :
    w.cell? ⟨g, i, none⟩ = some u ∧ w.frozen? ⟨g, i, none⟩ = false := by
  obtain ⟨h1, h | ⟨g', cap', cur, hv, hge, hh, h2, h3, h4, h5⟩⟩ := h
  · simp at h
  · simp only [Value.slice.injEq, Option.some.injEq, Addr.mk.injEq] at hv
    obtain ⟨⟨rfl, _, _⟩, _, rfl⟩ := hv
    have hb : Blk w g cur e := hh
    refine ⟨hb.cell ?_, hb.free i⟩
    rw [← h5, List.getElem?_take] at hi
    split at hi
    · rw [← Array.getElem?_toList]; exact hi
    · cases hi
theorem own_take {w : World} {B : Nat} {e : TypeId} {g n m cap : Nat} {xs : List Value} (h : w.ownsRow B e 1 (.slice (some ⟨g, 0, none⟩) n cap) n xs) (hm : m ≤ n) :
    w.ownsRow B e 1 (.slice (some ⟨g, 0, none⟩) m cap) m (xs.take m) := by
  obtain ⟨h1, h | ⟨g', cap', cur, hv, hge, hh, h2, h3, h4, h5⟩⟩ := h
  · simp at h
  · simp only [Value.slice.injEq, Option.some.injEq, Addr.mk.injEq] at hv
    obtain ⟨⟨rfl, _, _⟩, _, rfl⟩ := hv
    refine ⟨by simp at h1 ⊢; omega, Or.inr ⟨g, cap, cur, rfl, hge, hh, by omega, h3, h4, ?_⟩⟩
    rw [← h5, List.take_take]
    congr 1
    omega
theorem own_drewN {w : World} {B : Nat} {e : TypeId} {size : Nat} {v : Value} {n : Nat} {xs : List Value} (h : w.ownsRow B e size v n xs) (k : Nat) : (w.drewN k).ownsRow B e size v n xs := h
/-- The queue's struct: where its row lies, its map, whether it is disposed, whether it takes elements twice. -/
def QBlk (w : World) (q : Nat) (v : Value) (m : Nat) (dup : Bool) : Prop := Blk w q #[v, .map (some m), .bool false, .bool dup] 74
theorem own_ne {w : World} {B q : Nat} {v : Value} {m : Nat} {dup : Bool} {g n cap : Nat} {xs : List Value} (hb : QBlk w q v m dup) (h : w.ownsRow B 85 1 (.slice (some ⟨g, 0, none⟩) n cap) n xs) : q ≠ g := by
  obtain ⟨h1, h | ⟨g', cap', cur, hv, hge, hh, _⟩⟩ := h
  · simp at h
  · simp only [Value.slice.injEq, Option.some.injEq, Addr.mk.injEq] at hv
    obtain ⟨⟨rfl, _, _⟩, _, rfl⟩ := hv
    rintro rfl
    unfold QBlk Blk at hb
    rw [hh] at hb
    simp at hb
def swp (xs : List Item) (i j : Nat) (x y : Item) : List Item := (xs.set i y).set j x

set_option maxRecDepth 1000000 in
set_option maxHeartbeats 4000000 in
theorem swap_any {w : World} {B q g n cap m i j : Nat} {dup : Bool} {xs : List Item} {x y : Item} (hb : QBlk w q (.slice (some ⟨g, 0, none⟩) n cap) m dup) (hr : Row B w (.slice (some ⟨g, 0, none⟩) n cap) xs) (hn : xs.length = n) (hn2 : n ≤ 100000) (hi : xs[i]? = some x) (hj : xs[j]? = some y) :
    Calls Tryd.prog 48 #[.pointer (some ⟨q, 0, none⟩), .int .i64 i, .int .i64 j] w fun e w' => e = .returned (.tuple #[]) ∧ QBlk w' q (.slice (some ⟨g, 0, none⟩) n cap) m dup ∧ Row B w' (.slice (some ⟨g, 0, none⟩) n cap) (swp xs i j x y) ∧ Only [g] w w' := by
  have hil : i < n := by rw [← hn]; exact (List.getElem?_eq_some_iff.1 hi).1
  have hjl : j < n := by rw [← hn]; exact (List.getElem?_eq_some_iff.1 hj).1
  rw [Row, hn] at hr
  have hqg := own_ne hb hr
  have c0 : w.cell? ⟨q, 0, none⟩ = some (.slice (some ⟨g, 0, none⟩) n cap) := Blk.cell hb rfl
  obtain ⟨c1, f1⟩ := own_cell (i := i) (u := pit x) hr (by rw [List.getElem?_map, hi]; rfl)
  obtain ⟨c2, f2⟩ := own_cell (i := j) (u := pit y) hr (by rw [List.getElem?_map, hj]; rfl)
  have HB := Lib.hid hb
  have HR := Lib.hid hr
  have HN := Lib.hid hn
  obtain ⟨k1, k2⟩ := x
  obtain ⟨l1, l2⟩ := y
  have c1' : w.cell? ⟨g, i, none⟩ = some (.iface 76 (.agg #[.int .i64 k1, .int .i64 k2])) := c1
  have c2' : w.cell? ⟨g, j, none⟩ = some (.iface 76 (.agg #[.int .i64 l1, .int .i64 l2])) := c2
  clear c1 c2 hb hr hn hi hj
  have hgq : g ≠ q := fun e => hqg e.symm
  have z1 : (0 : Int) ≤ (i : Int) := by omega
  have z2 : (0 : Int) ≤ (j : Int) := by omega
  have z3 : (i : Int) < (n : Int) := by omega
  have z4 : (j : Int) < (n : Int) := by omega
  have HE : Hid (QBlk (((w.setCell ⟨g, i, none⟩ (.iface 76 (.agg #[.int .i64 l1, .int .i64 l2]))).setCell ⟨g, j, none⟩ (.iface 76 (.agg #[.int .i64 k1, .int .i64 k2]))).drew) q (.slice (some ⟨g, 0, none⟩) n cap) m dup ∧
      Row B (((w.setCell ⟨g, i, none⟩ (.iface 76 (.agg #[.int .i64 l1, .int .i64 l2]))).setCell ⟨g, j, none⟩ (.iface 76 (.agg #[.int .i64 k1, .int .i64 k2]))).drew) (.slice (some ⟨g, 0, none⟩) n cap) (swp xs i j (k1, k2) (l1, l2)) ∧
      Only [g] w (((w.setCell ⟨g, i, none⟩ (.iface 76 (.agg #[.int .i64 l1, .int .i64 l2]))).setCell ⟨g, j, none⟩ (.iface 76 (.agg #[.int .i64 k1, .int .i64 k2]))).drew)) := by
    have h1 := own_set (own_set HR.out hil (u := pit (l1, l2))) hjl (u := pit (k1, k2))
    refine ⟨(Blk.other (Blk.other HB.out hgq _) hgq _).drew, ?_, (((Only.refl [g] w).setCell (Or.inl (by simp)) _).setCell (Or.inl (by simp)) _).drew⟩
    have e1 : (swp xs i j (k1, k2) (l1, l2)).length = n := by simp [swp, HN.out]
    rw [Row, e1, swp, List.map_set, List.map_set]
    exact h1
  by_cases hij : i = j
  · subst hij
    have e : k1 = l1 ∧ k2 = l2 := by
      rw [c1'] at c2'
      simpa using c2'
    obtain ⟨rfl, rfl⟩ := e
    clear c2' f2 z2 z4 hjl
    go_enter Tryd.func48, Tryd.ntmps48
    go_wp2_with fail
    go_region
    all_goals (go_end0; exact ⟨rfl, HE.out⟩)
  · have hji : ¬ j = i := fun e => hij e.symm
    go_enter Tryd.func48, Tryd.ntmps48
    go_wp2_with fail
    go_region
    all_goals (go_end0; exact ⟨rfl, HE.out⟩)
end Go.Proofs.YtmkbgdgfbmfbdaaDoor
