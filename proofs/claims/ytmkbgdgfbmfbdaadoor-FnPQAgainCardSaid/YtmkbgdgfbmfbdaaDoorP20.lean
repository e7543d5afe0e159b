/- The same elements put, taken, put and taken again, without duplicates: plain; the steps twice. -/
import Derived.Test.YtmkbgdgfbmfbdaaDoorP19
namespace Go.Proofs.YtmkbgdgfbmfbdaaDoor
open Go.RowKit

theorem itemsOf_nodup (b : Int) (xs : List Int) : (itemsOf b xs).Nodup := by
  rw [List.Nodup, List.pairwise_iff_getElem]
  intro i j hi hj hij e
  have h2 := congrArg Prod.snd e
  simp [itemsOf] at h2
  omega
theorem again1 {its xs ks : List Item} {outs : List (List Item)} (h : Ran false [.put its] xs ks outs) : xs.Perm its ∧ ks = its ∧ outs = [[]] := by
  obtain ⟨x0, k0, o0, o, h1, h2, rfl⟩ := Ran.snoc (ss := []) h
  obtain ⟨rfl, rfl, rfl⟩ := Ran.none h1
  obtain ⟨h3, h4, rfl⟩ := h2
  exact ⟨h3, by rw [h4]; simp [newKeys], rfl⟩
theorem again2 {its xs ks : List Item} {outs : List (List Item)} {N : Nat} (h : Ran false [.put its, .get N] xs ks outs) : xs = [] ∧ ks = [] ∧ ∃ o, outs = [[], o] ∧ o.Perm its ∧ Asc (keysOf o) := by
  obtain ⟨x0, k0, o0, o, h1, h2, rfl⟩ := Ran.snoc (ss := [.put its]) h
  obtain ⟨h3, rfl, rfl⟩ := again1 h1
  obtain ⟨h4, h5, rfl, rfl⟩ := h2
  exact ⟨rfl, rfl, o, rfl, h4.trans h3, h5⟩
theorem again3 {its xs ks : List Item} {outs : List (List Item)} {N : Nat} (h : Ran false [.put its, .get N, .put its] xs ks outs) : xs.Perm its ∧ ks = its ∧ ∃ o, outs = [[], o, []] ∧ o.Perm its ∧ Asc (keysOf o) := by
  obtain ⟨x0, k0, o0, o, h1, h2, rfl⟩ := Ran.snoc (ss := [.put its, .get N]) h
  obtain ⟨rfl, rfl, o1, rfl, h3, h4⟩ := again2 h1
  obtain ⟨h5, h6, rfl⟩ := h2
  exact ⟨h5, by rw [h6]; simp [newKeys], o1, rfl, h3, h4⟩
theorem again4 {its xs ks : List Item} {outs : List (List Item)} {N M : Nat} (h : Ran false [.put its, .get N, .put its, .get M] xs ks outs) : ∃ o o2, outs = [[], o, [], o2] ∧ o.Perm its ∧ Asc (keysOf o) ∧ o2.Perm its ∧ Asc (keysOf o2) := by
  obtain ⟨x0, k0, o0, o, h1, h2, rfl⟩ := Ran.snoc (ss := [.put its, .get N, .put its]) h
  obtain ⟨h3, rfl, o1, rfl, h4, h5⟩ := again3 h1
  obtain ⟨h6, h7, _⟩ := h2
  exact ⟨o1, o, rfl, h4, h5, h6.trans h3, h7⟩
theorem again_good {its : List Item} {N M : Nat} (h0 : its ≠ []) (hn : its.Nodup) (hl : its.length ≤ 30) (hN : 30 ≤ N) (hN2 : N ≤ 1000) (hM : 30 ≤ M) (hM2 : M ≤ 1000) : Good false [.put its, .get N, .put its, .get M] := by
  intro i s hs xs ks outs hr
  match i, hs, hr with
  | 0, hs, hr =>
    simp at hs
    subst hs
    obtain ⟨rfl, rfl, rfl⟩ := Ran.none (by simpa using hr)
    exact ⟨h0, by simp; omega, fun _ => by simpa using hn⟩
  | 1, hs, hr =>
    simp at hs
    subst hs
    obtain ⟨h1, rfl, _⟩ := again1 (by simpa using hr)
    exact ⟨fun e => h0 (by rw [e] at h1; exact h1.symm.eq_nil), fun x hx => h1.mem_iff.2 hx, by rw [h1.length_eq]; omega, hN2⟩
  | 2, hs, hr =>
    simp at hs
    subst hs
    obtain ⟨rfl, rfl, _⟩ := again2 (by simpa using hr)
    exact ⟨h0, by simp; omega, fun _ => by simpa using hn⟩
  | 3, hs, hr =>
    simp at hs
    subst hs
    obtain ⟨h1, rfl, _⟩ := again3 (by simpa using hr)
    exact ⟨fun e => h0 (by rw [e] at h1; exact h1.symm.eq_nil), fun x hx => h1.mem_iff.2 hx, by rw [h1.length_eq]; omega, hM2⟩
  | i + 4, hs, hr => simp at hs
end Go.Proofs.YtmkbgdgfbmfbdaaDoor
