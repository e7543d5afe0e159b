/- Rows of a call's own, read and written cell by cell. -/
import Derived.Test.YtalphojbkeleiaaListKit
import Derived.Laws.CopyOwn
namespace Go.Proofs.Ytalphojbkeleiaa
open Go.RowKit

theorem own_set {w : World} {B : Nat} {e : TypeId} {g n cap : Nat} {xs : List Value} {i : Nat} {u : Value} (h : w.ownsRow B e 1 (.slice (some ⟨g, 0, none⟩) n cap) n xs) (hi : i < n) :
    (w.setCell ⟨g, i, none⟩ u).ownsRow B e 1 (.slice (some ⟨g, 0, none⟩) n cap) n (xs.set i u) := by
  obtain ⟨h1, h | ⟨g', cap', cur, hv, hge, hh, h2, h3, h4, h5⟩⟩ := h
  · simp at h
  · simp only [Value.slice.injEq, Option.some.injEq, Addr.mk.injEq] at hv
    obtain ⟨⟨rfl, _, _⟩, _, rfl⟩ := hv
    have hb : Blk w g cur e := hh
    refine ⟨by rw [List.length_set]; exact h1, Or.inr ⟨g, cap, _, rfl, hge, hb.set i u, h2, h3, by rw [Array.size_setIfInBounds]; exact h4, ?_⟩⟩
    rw [Array.toList_setIfInBounds, List.take_set, h5]
theorem own_cell {w : World} {B : Nat} {e : TypeId} {g n cap : Nat} {xs : List Value} {i : Nat} {u : Value} (h : w.ownsRow B e 1 (.slice (some ⟨g, 0, none⟩) n cap) n xs) (hi : xs[i]? = some u) :
    w.cell? ⟨g, i, none⟩ = some u ∧ w.frozen? ⟨g, i, none⟩ = false := by
  obtain ⟨h1, h | ⟨g', cap', cur, hv, hge, hh, h2, h3, h4, h5⟩⟩ := h
  · simp at h
  · simp only [Value.slice.injEq, Option.some.injEq, Addr.mk.injEq] at hv
    obtain ⟨⟨rfl, _, _⟩, _, rfl⟩ := hv
    have hb : Blk w g cur e := hh
    refine ⟨hb.cell ?_, hb.free i⟩
    rw [← h5, List.getElem?_take] at hi
    split at hi
    · rw [← Array.getElem?_toList]; exact hi
    · cases hi
theorem own_take {w : World} {B : Nat} {e : TypeId} {g n m cap : Nat} {xs : List Value} (h : w.ownsRow B e 1 (.slice (some ⟨g, 0, none⟩) n cap) n xs) (hm : m ≤ n) :
    w.ownsRow B e 1 (.slice (some ⟨g, 0, none⟩) m cap) m (xs.take m) := by
  obtain ⟨h1, h | ⟨g', cap', cur, hv, hge, hh, h2, h3, h4, h5⟩⟩ := h
  · simp at h
  · simp only [Value.slice.injEq, Option.some.injEq, Addr.mk.injEq] at hv
    obtain ⟨⟨rfl, _, _⟩, _, rfl⟩ := hv
    refine ⟨by rw [List.length_take]; omega, Or.inr ⟨g, cap, cur, rfl, hge, hh, by omega, h3, h4, ?_⟩⟩
    rw [← h5, List.take_take]
    congr 1
    omega
theorem own_drewN {w : World} {B : Nat} {e : TypeId} {size : Nat} {v : Value} {n : Nat} {xs : List Value} (h : w.ownsRow B e size v n xs) (k : Nat) : (w.drewN k).ownsRow B e size v n xs := h
theorem own_other {w : World} {B : Nat} {e : TypeId} {g n cap : Nat} {p : Addr} {xs : List Value} (h : w.ownsRow B e 1 (.slice (some ⟨g, 0, none⟩) n cap) n xs) (hq : p.block ≠ g) (u : Value) :
    (w.setCell p u).ownsRow B e 1 (.slice (some ⟨g, 0, none⟩) n cap) n xs := by
  obtain ⟨h1, h | ⟨g', cap', cur, hv, hge, hh, r⟩⟩ := h
  · simp at h
  · simp only [Value.slice.injEq, Option.some.injEq, Addr.mk.injEq] at hv
    obtain ⟨⟨rfl, _, _⟩, _, rfl⟩ := hv
    have hb : Blk w g cur e := hh
    exact ⟨h1, Or.inr ⟨g, cap, cur, rfl, hge, hb.other hq u, r⟩⟩
theorem own_some {w : World} {base : Nat} {e : TypeId} {size : Nat} {v : Value} {n : Nat} {xs : List Value} (h : w.ownsRow base e size v n xs) (hn : 0 < n) : ∃ g cap, v = .slice (some ⟨g, 0, none⟩) n cap := by
  obtain ⟨_, h | ⟨g, cap, cur, hv, _⟩⟩ := h
  · have := h.2; omega
  · exact ⟨g, cap, hv⟩
/-- The block of a row of a call's own. -/
theorem own_open {w : World} {B : Nat} {e : TypeId} {g n cap : Nat} {xs : List Value} (h : w.ownsRow B e 1 (.slice (some ⟨g, 0, none⟩) n cap) n xs) :
    ∃ cur : List Value, Blk w g cur.toArray e ∧ B ≤ g ∧ n ≤ cap ∧ cap ≤ maxLen ∧ cur.length = cap ∧ cur.take n = xs ∧ xs.length = n := by
  obtain ⟨h1, h | ⟨g', cap', cur, hv, hge, hh, h2, h3, h4, h5⟩⟩ := h
  · simp at h
  · simp only [Value.slice.injEq, Option.some.injEq, Addr.mk.injEq] at hv
    obtain ⟨⟨rfl, _, _⟩, _, rfl⟩ := hv
    exact ⟨cur.toList, hh, hge, h2, h3, by rw [Array.length_toList]; omega, by rw [← h5, Nat.mul_one], by omega⟩
theorem own_shut {w : World} {B : Nat} {e : TypeId} {g n cap : Nat} {cur : List Value} (hb : Blk w g cur.toArray e) (hg : B ≤ g) (hn : n ≤ cap) (hc : cap ≤ maxLen) (hl : cur.length = cap) :
    w.ownsRow B e 1 (.slice (some ⟨g, 0, none⟩) n cap) n (cur.take n) :=
  ⟨by rw [List.length_take]; omega, Or.inr ⟨g, cap, cur.toArray, rfl, hg, hb, hn, hc, by rw [List.size_toArray]; omega, by rw [Nat.mul_one]⟩⟩
theorem own_low' {w : World} {B : Nat} {e : TypeId} {size : Nat} {v : Value} {n : Nat} {xs : List Value} (h : w.ownsRow B e size v n xs) {B' : Nat} (hB : B' ≤ B) : w.ownsRow B' e size v n xs := by
  obtain ⟨h1, h | ⟨g, cap, cur, hv, hge, hh, r⟩⟩ := h
  · exact ⟨h1, Or.inl h⟩
  · exact ⟨h1, Or.inr ⟨g, cap, cur, hv, by omega, hh, r⟩⟩
end Go.Proofs.Ytalphojbkeleiaa
