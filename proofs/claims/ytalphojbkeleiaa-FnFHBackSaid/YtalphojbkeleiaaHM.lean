/- The scripts of FnFHUndone and FnFHBack. -/
import Derived.Test.YtalphojbkeleiaaHK
namespace Go.Proofs.Ytalphojbkeleiaa
namespace FH
open Go.RowKit

theorem insert_sorted (x : Int) : ∀ {r : List Int}, r.Pairwise (· ≤ ·) → ∃ r' : List Int, r'.Perm (x :: r) ∧ r'.Pairwise (· ≤ ·)
  | [], _ => ⟨[x], List.Perm.refl _, by simp⟩
  | y :: t, h => by
    obtain ⟨h1, h2⟩ := List.pairwise_cons.1 h
    by_cases hxy : x ≤ y
    · refine ⟨x :: y :: t, List.Perm.refl _, List.pairwise_cons.2 ⟨fun z hz => ?_, h⟩⟩
      simp only [List.mem_cons] at hz
      rcases hz with rfl | hz
      · exact hxy
      · have := h1 z hz; omega
    · obtain ⟨r', h3, h4⟩ := insert_sorted x h2
      refine ⟨y :: r', (h3.cons y).trans (List.Perm.swap x y t), List.pairwise_cons.2 ⟨fun z hz => ?_, h4⟩⟩
      have hz' := h3.subset hz
      simp only [List.mem_cons] at hz'
      rcases hz' with rfl | hz'
      · omega
      · exact h1 z hz'
theorem sort_of : ∀ l : List Int, ∃ r : List Int, r.Perm l ∧ r.Pairwise (· ≤ ·)
  | [] => ⟨[], List.Perm.refl _, by simp⟩
  | x :: l => by
    obtain ⟨r, h1, h2⟩ := sort_of l
    obtain ⟨r', h3, h4⟩ := insert_sorted x h2
    exact ⟨r', h3.trans (h1.cons x), h4⟩
/-- What came out first is how the sorted list begins; what is left is its rest. -/
theorem split_sorted {a xs o l : List Int} {m : Nat} (ha : a.Perm xs) (hs : a.Pairwise (· ≤ ·)) (hp : (o ++ l).Perm xs) (ho : o.Pairwise (· ≤ ·)) (hm : o.length = m) (hle : ∀ p ∈ o, ∀ x ∈ l, p ≤ x) : o = a.take m ∧ l.Perm (a.drop m) := by
  obtain ⟨r, h1, h2⟩ := sort_of l
  have h3 : (o ++ r).Pairwise (· ≤ ·) := List.pairwise_append.2 ⟨ho, h2, fun p hp x hx => hle p hp x (h1.subset hx)⟩
  have h4 : o ++ r = a := sorted_same h3 hs (((h1.append_left o).trans hp).trans ha.symm)
  rw [← h4, ← hm, List.take_left, List.drop_left]
  exact ⟨rfl, h1.symm⟩
theorem vals_drop {w : World} {b o n m c : Nat} {us vs : List Value} (h : Vals w (.slice (some ⟨b, o, none⟩) n c) (us ++ vs)) (hm : us.length = m) : Vals w (.slice (some ⟨b, o + m, none⟩) (n - m) (c - m)) vs := by
  have hl := h.len
  rw [List.length_append] at hl
  rcases h with ⟨h1, _⟩ | ⟨b', o', c', h1, h2, h3⟩
  · simp at h1
  · simp only [Value.slice.injEq, Option.some.injEq, Addr.mk.injEq] at h1
    obtain ⟨⟨rfl, rfl, _⟩, _, rfl⟩ := h1
    rw [List.length_append] at h2
    refine Or.inr ⟨b, o + m, c - m, by rw [show vs.length = n - m by omega], by omega, fun i hi => ?_⟩
    have h4 := h3 (m + i) (by rw [List.length_append]; omega)
    rw [List.getElem?_append_right (by omega), show m + i - us.length = i by omega] at h4
    rw [show o + m + i = o + (m + i) by omega]
    exact h4
theorem lv_append (a b : List (Option Int)) : lv (a ++ b) = lv a ++ lv b := List.filterMap_append
section
variable {xs : List Int} (hs : ∀ x ∈ xs, Small x) (hn : xs.length ≤ 30)
theorem undone_gets {big : Int} (hb : ∀ x ∈ xs, x < big) : ∀ {m : Nat} {cl : Bool} {es : List (Option Int)} {outs : List Out}, m ≤ xs.length → Ran ((putsOf 0 xs ++ [.put big]) ++ List.replicate m Step.get) cl es outs →
    ∃ (A : List (Option Int)) (o : List Int), es = A ++ [some big] ∧ A.length = xs.length ∧ cl = true ∧ (o ++ lv A).Perm xs ∧ o.Pairwise (· ≤ ·) ∧ o.length = m ∧ ∀ p ∈ o, ∀ x ∈ lv A, p ≤ x := by
  intro m
  induction m with
  | zero =>
    intro cl es outs _ h
    simp only [List.replicate_zero, List.append_nil] at h
    obtain ⟨h1, h2⟩ := more_es h
    exact ⟨xs.map some, [], h2, by simp, h1, by rw [lv_some]; simp, by simp, rfl, by simp⟩
  | succ m ih =>
    intro cl es outs hm h
    rw [List.replicate_succ', ← List.append_assoc] at h
    obtain ⟨cl0, es1, outs1, E, P, h1, ⟨i, h2, h3, h4, h5⟩, h6, _⟩ := h.inv
    obtain ⟨A, o, g1, g2, g3, g4, g5, g6, g7⟩ := ih (by omega) h1
    rw [g1] at h2 h4 h5
    have hi := (List.getElem?_eq_some_iff.1 h2).1
    simp at hi
    by_cases hiA : i < A.length
    · rw [List.getElem?_append_left hiA] at h2
      have hp := lv_set h2
      have hP : P ∈ lv A := hp.subset (by simp)
      have hmin : ∀ x ∈ lv A, P ≤ x := fun x hx => by
        obtain ⟨j, hj⟩ := lv_mem hx
        exact h4 j x (by rw [List.getElem?_append_left (List.getElem?_eq_some_iff.1 hj).1]; exact hj)
      have hsub : ∀ x ∈ lv (A.set i none), x ∈ lv A := fun x hx => hp.subset (by simp [hx])
      refine ⟨A.set i none, o ++ [P], by rw [h5, List.set_append_left _ _ hiA], by rw [List.length_set]; exact g2, by rw [h6]; exact g3, ?_, ?_, by simp [g6], ?_⟩
      · rw [List.append_assoc]
        exact (hp.append_left o).trans g4
      · rw [List.pairwise_append]
        exact ⟨g5, by simp, fun a ha b hb => by simp at hb; subst hb; exact g7 a ha b hP⟩
      · intro p hpm x hx
        rcases List.mem_append.1 hpm with h | h
        · exact g7 p h x (hsub x hx)
        · simp at h; subst h; exact hmin x (hsub x hx)
    · exfalso
      have e : i = A.length := by omega
      subst e
      rw [List.getElem?_append_right (Nat.le_refl _)] at h2
      simp at h2
      subst h2
      have hlen := g4.length_eq
      rw [List.length_append, g6] at hlen
      cases hl : lv A with
      | nil => rw [hl] at hlen; simp at hlen; omega
      | cons x t =>
        have hx : x ∈ lv A := by rw [hl]; simp
        obtain ⟨j, hj⟩ := lv_mem hx
        have h7 := h4 j x (by rw [List.getElem?_append_left (List.getElem?_eq_some_iff.1 hj).1]; exact hj)
        have h8 := hb x (g4.subset (by simp [hx]))
        omega
include hs hn
theorem undone_law {big : Int} (hb : ∀ x ∈ xs, x < big) (hbb : -1000000 ≤ big ∧ big ≤ 1000000) {m : Nat} (hm : m ≤ xs.length) {a : List Int} (ha : a.Perm xs) (has : a.Pairwise (· ≤ ·)) :
    Good (((putsOf 0 xs ++ [.put big]) ++ List.replicate m Step.get) ++ [.del xs.length]) ∧ ∀ cl es outs, Ran (((putsOf 0 xs ++ [.put big]) ++ List.replicate m Step.get) ++ [.del xs.length]) cl es outs → (lv es).Perm (a.drop m) := by
  have hg : Good ((putsOf 0 xs ++ [.put big]) ++ List.replicate m Step.get) := (more_good hs hn hbb).gets fun cl es outs h => by
    rw [(more_es h).2, lv_append, lv_some]; simp [lv]; omega
  refine ⟨hg.snoc fun cl es outs h => ?_, fun cl es outs h => ?_⟩
  · obtain ⟨A, o, g1, g2, g3, _⟩ := undone_gets hb hm h
    exact ⟨g3, big, by rw [g1, ← g2]; simp⟩
  · obtain ⟨cl0, es0, outs0, E, P, h1, ⟨h2, _, _⟩, _, _⟩ := h.inv
    obtain ⟨A, o, g1, g2, g3, g4, g5, g6, g7⟩ := undone_gets hb hm h1
    have e : es = A ++ [none] := by rw [h2, g1, ← g2, List.set_append_right _ _ (Nat.le_refl _)]; simp
    have e2 : lv es = lv A := by rw [e, lv_append]; simp [lv]
    rw [e2]
    exact (split_sorted ha has g4 g5 g6 g7).2
theorem back_law {m : Nat} (hm : m ≤ xs.length) {a : List Int} (ha : a.Perm xs) (has : a.Pairwise (· ≤ ·)) :
    Good ((putsOf 0 xs ++ List.replicate m Step.get) ++ putsOf 0 (a.take m).reverse) ∧ ∀ cl es outs, Ran ((putsOf 0 xs ++ List.replicate m Step.get) ++ putsOf 0 (a.take m).reverse) cl es outs → (lv es).Perm xs := by
  have hg : Good (putsOf 0 xs ++ List.replicate m Step.get) := (puts_good hs hn).gets fun cl es outs h => by rw [(puts_lv h).length_eq]; exact hm
  refine ⟨hg.puts rfl (fun x hx => ?_) (fun cl es outs h => ?_), fun cl es outs h => ?_⟩
  · have h1 : x ∈ a := List.mem_of_mem_take (List.mem_reverse.1 hx)
    obtain ⟨h2, h3⟩ := hs x (ha.subset h1)
    omega
  · obtain ⟨es0, outs0, o, g1, _, _, _, _, _, g7⟩ := gets_law h
    rw [g7, (puts_es g1).2]
    simp
    omega
  · obtain ⟨es0, outs0, o, g1, g2, _, _⟩ := puts_law rfl h
    obtain ⟨es1, outs1, o1, k1, k2, k3, k4, k5, k6, _⟩ := gets_law g1
    have h1 := split_sorted (m := m) ha has (k4.trans (puts_lv k1)) k5 (by rw [pri, List.length_map, k3]) k6
    rw [g2, lv_puts]
    have e : (a.take m).reverse.map (· + (0 : Int)) = (a.take m).reverse := by simp
    rw [e]
    refine ((h1.2.append (List.reverse_perm _)).trans List.perm_append_comm).trans ?_
    rw [List.take_append_drop]
    exact ha
end
end FH
end Go.Proofs.Ytalphojbkeleiaa
