/- Heaps in lists: plain. -/
import Derived.Test.YtmkbgdgfbmfbdaaDoorP1
namespace Go.Proofs.YtmkbgdgfbmfbdaaDoor
open Go.RowKit

def kat (xs : List Item) (i : Nat) : Int := (xs.getD i (0, 0)).1
theorem kat_of {xs : List Item} {i : Nat} {x : Item} (h : xs[i]? = some x) : kat xs i = x.1 := by rw [kat, List.getD_eq_getElem?_getD, h]; rfl
theorem swp_len (xs : List Item) (i j : Nat) (x y : Item) : (swp xs i j x y).length = xs.length := by simp [swp]
theorem swp_get {xs : List Item} {i j : Nat} {x y : Item} (hi : xs[i]? = some x) (hj : xs[j]? = some y) (k : Nat) : (swp xs i j x y)[k]? = if k = j then some x else if k = i then some y else xs[k]? := by
  have h1 := (List.getElem?_eq_some_iff.1 hi).1
  have h2 := (List.getElem?_eq_some_iff.1 hj).1
  unfold swp
  rw [List.getElem?_set]
  by_cases e : j = k
  · subst e; simp [h2]
  · rw [if_neg e, if_neg (fun e2 => e e2.symm), List.getElem?_set]
    by_cases e2 : i = k
    · subst e2; simp [h1]
    · rw [if_neg e2, if_neg (fun e3 => e2 e3.symm)]
theorem kat_swp {xs : List Item} {i j : Nat} {x y : Item} (hi : xs[i]? = some x) (hj : xs[j]? = some y) (k : Nat) : kat (swp xs i j x y) k = if k = j then x.1 else if k = i then y.1 else kat xs k := by
  unfold kat
  rw [List.getD_eq_getElem?_getD, swp_get hi hj]
  split
  · rfl
  · split
    · rfl
    · rw [List.getD_eq_getElem?_getD]
theorem perm_swp {xs : List Item} {i j : Nat} {x y : Item} (hi : xs[i]? = some x) (hj : xs[j]? = some y) : (swp xs i j x y).Perm xs := by
  have h1 := (List.getElem?_eq_some_iff.1 hi)
  have h2 := (List.getElem?_eq_some_iff.1 hj)
  obtain ⟨l1, e1⟩ := h1
  obtain ⟨l2, e2⟩ := h2
  rw [List.perm_iff_count]
  intro a
  unfold swp
  rw [List.count_set (by simpa using l2), List.count_set l1]
  have h3 : (xs.set i y)[j]'(by simpa using l2) = y := by
    rw [List.getElem_set]
    split
    · rfl
    · exact e2
  rw [h3, e1]
  have hx : (if x == a then 1 else 0) ≤ xs.count a := by
    split
    · rename_i h
      have : x = a := by simpa using h
      subst this
      rw [← e1]
      exact List.count_pos_iff.2 (List.getElem_mem l1)
    · omega
  omega

def Heap (xs : List Item) : Prop := ∀ i, 0 < i → i < xs.length → kat xs ((i - 1) / 2) ≤ kat xs i
def HeapUp (xs : List Item) (t : Nat) : Prop := (∀ i, 0 < i → i < xs.length → i ≠ t → kat xs ((i - 1) / 2) ≤ kat xs i) ∧ ∀ c, 0 < c → c < xs.length → (c - 1) / 2 = t → 0 < t → kat xs ((t - 1) / 2) ≤ kat xs c
theorem Heap.up {xs : List Item} (h : Heap xs) (x : Item) : HeapUp (xs ++ [x]) xs.length := by
  have e : ∀ i, i < xs.length → kat (xs ++ [x]) i = kat xs i := fun i hi => by
    unfold kat; rw [List.getD_eq_getElem?_getD, List.getD_eq_getElem?_getD, List.getElem?_append_left hi]
  refine ⟨fun i h1 h2 h3 => ?_, fun c h1 h2 h3 h4 => ?_⟩
  · rw [List.length_append, List.length_singleton] at h2
    rw [e i (by omega), e _ (by omega)]
    exact h i h1 (by omega)
  · rw [List.length_append, List.length_singleton] at h2
    omega
theorem HeapUp.done {xs : List Item} {t : Nat} (h : HeapUp xs t) (h2 : 0 < t → t < xs.length → kat xs ((t - 1) / 2) ≤ kat xs t) : Heap xs := fun i h3 h4 => by
  by_cases e : i = t
  · subst e; exact h2 h3 h4
  · exact h.1 i h3 h4 e
theorem HeapUp.swap {xs : List Item} {t : Nat} {x y : Item} (h : HeapUp xs t) (h0 : 0 < t) (hx : xs[t]? = some x) (hy : xs[(t - 1) / 2]? = some y) (hlt : x.1 < y.1) : HeapUp (swp xs t ((t - 1) / 2) x y) ((t - 1) / 2) := by
  obtain ⟨p, hp⟩ : ∃ p, p = (t - 1) / 2 := ⟨_, rfl⟩
  rw [← hp] at hy ⊢
  have hpt : p < t := by omega
  have ex := kat_of hx
  have ey := kat_of hy
  have htl := (List.getElem?_eq_some_iff.1 hx).1
  refine ⟨fun i h1 h2 h3 => ?_, fun c h1 h2 h3 h4 => ?_⟩
  · rw [swp_len] at h2
    rw [kat_swp hx hy, kat_swp hx hy, if_neg h3]
    by_cases e : i = t
    · subst e
      rw [if_pos rfl, if_pos hp.symm]
      omega
    · rw [if_neg e]
      have hi := h.1 i h1 h2 e
      by_cases e1 : (i - 1) / 2 = p
      · rw [if_pos e1]
        rw [e1, ey] at hi
        omega
      · rw [if_neg e1]
        by_cases e2 : (i - 1) / 2 = t
        · rw [if_pos e2]
          have := h.2 i h1 h2 e2 h0
          rw [← hp, ey] at this
          exact this
        · rw [if_neg e2]; exact hi
  · rw [swp_len] at h2
    rw [kat_swp hx hy, kat_swp hx hy, if_neg (by omega), if_neg (by omega)]
    have hpp := h.1 p h4 (by omega) (by omega)
    rw [ey] at hpp
    by_cases e : c = t
    · subst e
      rw [if_neg (by omega), if_pos rfl]
      exact hpp
    · rw [if_neg (by omega), if_neg e]
      have hc := h.1 c h1 h2 e
      rw [h3, ey] at hc
      omega

def HeapDown (xs : List Item) (t : Nat) : Prop := (∀ i, 0 < i → i < xs.length → (i - 1) / 2 ≠ t → kat xs ((i - 1) / 2) ≤ kat xs i) ∧ ∀ c, 0 < c → c < xs.length → (c - 1) / 2 = t → 0 < t → kat xs ((t - 1) / 2) ≤ kat xs c
theorem HeapDown.done {xs : List Item} {t : Nat} (h : HeapDown xs t) (h2 : ∀ c, 0 < c → c < xs.length → (c - 1) / 2 = t → kat xs t ≤ kat xs c) : Heap xs := fun i h3 h4 => by
  by_cases e : (i - 1) / 2 = t
  · have := h2 i h3 h4 e
    rw [e]; exact this
  · exact h.1 i h3 h4 e
theorem HeapDown.swap {xs : List Item} {t c : Nat} {x y : Item} (h : HeapDown xs t) (hc0 : 0 < c) (hct : (c - 1) / 2 = t) (hx : xs[t]? = some x) (hy : xs[c]? = some y) (hlt : y.1 < x.1) (hmin : ∀ d, 0 < d → d < xs.length → (d - 1) / 2 = t → y.1 ≤ kat xs d) : HeapDown (swp xs t c x y) c := by
  have ex := kat_of hx
  have ey := kat_of hy
  have hcl := (List.getElem?_eq_some_iff.1 hy).1
  have htc : t < c := by omega
  refine ⟨fun i h1 h2 h3 => ?_, fun d h1 h2 h3 h4 => ?_⟩
  · rw [swp_len] at h2
    rw [kat_swp hx hy, kat_swp hx hy, if_neg h3]
    by_cases e : (i - 1) / 2 = t
    · rw [if_pos e]
      by_cases e1 : i = c
      · rw [if_pos e1]; omega
      · rw [if_neg e1, if_neg (by omega)]
        exact hmin i h1 h2 e
    · rw [if_neg e]
      have hi := h.1 i h1 h2 e
      by_cases e1 : i = c
      · exact absurd (e1 ▸ hct) e
      · rw [if_neg e1]
        by_cases e2 : i = t
        · subst e2
          rw [if_pos rfl]
          have := h.2 c hc0 hcl hct h1
          rw [ey] at this
          exact this
        · rw [if_neg e2]; exact hi
  · rw [swp_len] at h2
    rw [kat_swp hx hy, kat_swp hx hy, hct, if_neg (by omega), if_pos rfl, if_neg (by omega), if_neg (by omega)]
    have := h.1 d h1 h2 (by omega)
    rw [h3, ey] at this
    exact this
theorem Heap.root {xs : List Item} (h : Heap xs) : ∀ i, i < xs.length → kat xs 0 ≤ kat xs i := by
  intro i
  induction i using Nat.strongRecOn with
  | _ i ih =>
    intro hi
    by_cases h0 : i = 0
    · rw [h0]; omega
    · have h1 := h i (by omega) hi
      have h2 := ih ((i - 1) / 2) (by omega) (by omega)
      omega
theorem Heap.min {xs : List Item} {x : Item} (h : Heap xs) (hx : xs[0]? = some x) : ∀ y ∈ xs, x.1 ≤ y.1 := fun y hy => by
  obtain ⟨i, hi⟩ := List.getElem?_of_mem hy
  have := h.root i (List.getElem?_eq_some_iff.1 hi).1
  rwa [kat_of hx, kat_of hi] at this
/-- The list without its first one, the last one in its place. -/
theorem pop_start {xs : List Item} {x y : Item} {n : Nat} (h : Heap xs) (hn : xs.length = n + 1) (hx : xs[n]? = some x) (hy : xs[0]? = some y) :
    HeapDown ((swp xs n 0 x y).take n) 0 ∧ ((swp xs n 0 x y).take n).length = n ∧ (y :: (swp xs n 0 x y).take n).Perm xs := by
  have hl : ((swp xs n 0 x y).take n).length = n := by rw [List.length_take, swp_len]; omega
  have e : ∀ i, 0 < i → i < n → kat ((swp xs n 0 x y).take n) i = kat xs i := fun i h1 h2 => by
    unfold kat
    rw [List.getD_eq_getElem?_getD, List.getElem?_take, if_pos h2, swp_get hx hy, if_neg (by omega), if_neg (by omega), List.getD_eq_getElem?_getD]
  refine ⟨⟨fun i h1 h2 h3 => ?_, fun c _ _ _ h4 => absurd h4 (by omega)⟩, hl, ?_⟩
  · rw [hl] at h2
    rw [e i h1 h2, e _ (by omega) (by omega)]
    exact h i h1 (by omega)
  · refine List.Perm.trans ?_ (perm_swp hx hy)
    have hlast : (swp xs n 0 x y)[n]? = some y := by
      rw [swp_get hx hy]
      by_cases h0 : n = 0
      · subst h0
        rw [if_pos rfl]
        rw [hx] at hy
        exact hy
      · rw [if_neg h0, if_pos rfl]
    have h2 : swp xs n 0 x y = (swp xs n 0 x y).take n ++ [y] := by
      conv => lhs; rw [← List.take_append_drop n (swp xs n 0 x y)]
      congr 1
      have h3 : n < (swp xs n 0 x y).length := by rw [swp_len]; omega
      rw [List.drop_eq_getElem_cons h3]
      have h4 := (List.getElem?_eq_some_iff.1 hlast).2
      rw [h4, List.drop_eq_nil_of_le (by rw [swp_len]; omega)]
    conv => rhs; rw [h2]
    exact (List.perm_append_comm (l₁ := [y])).symm.symm

/-- Ascending keys. -/
def Asc (l : List Int) : Prop := l.Pairwise (· ≤ ·)
theorem asc_unique : ∀ {a b : List Int}, Asc a → Asc b → a.Perm b → a = b
  | [], b, _, _, h => h.nil_eq
  | x :: a, b, ha, hb, h => by
    cases b with
    | nil => exact absurd h.length_eq (by simp)
    | cons y b =>
      have h1 := List.pairwise_cons.1 ha
      have h2 := List.pairwise_cons.1 hb
      have hx : y ≤ x := by
        rcases List.mem_cons.1 (h.mem_iff.1 (List.mem_cons_self)) with e | e
        · omega
        · exact h2.1 x e
      have hy : x ≤ y := by
        rcases List.mem_cons.1 (h.mem_iff.2 (List.mem_cons_self)) with e | e
        · omega
        · exact h1.1 y e
      have e : x = y := by omega
      subst e
      rw [asc_unique h1.2 h2.2 h.cons_inv]
end Go.Proofs.YtmkbgdgfbmfbdaaDoor
