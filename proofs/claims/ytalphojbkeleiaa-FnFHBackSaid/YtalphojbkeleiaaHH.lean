/- What scripts say: the least ones come out in order. -/
import Derived.Test.YtalphojbkeleiaaHG
namespace Go.Proofs.Ytalphojbkeleiaa
namespace FH
open Go.RowKit

def lv (es : List (Option Int)) : List Int := es.filterMap id
theorem liv_lv (es : List (Option Int)) : liv es = (lv es).length := by
  unfold liv lv
  induction es with
  | nil => rfl
  | cons x t ih =>
    cases x with
    | none => simpa using ih
    | some a => simp [List.countP_cons, ih]
theorem lv_set : ∀ {es : List (Option Int)} {i : Nat} {p : Int}, es[i]? = some (some p) → (p :: lv (es.set i none)).Perm (lv es)
  | [], i, p, h => by simp at h
  | x :: t, 0, p, h => by simp at h; subst h; simp [lv]
  | x :: t, i + 1, p, h => by
    have ih := lv_set (es := t) (i := i) (p := p) (by simpa using h)
    cases x with
    | none => simpa [lv] using ih
    | some y =>
      simp only [lv, List.set_cons_succ, List.filterMap_cons_some (show id (some y) = some y from rfl)]
      exact (List.Perm.swap y p _).trans (ih.cons y)
theorem lv_mem {es : List (Option Int)} {x : Int} (h : x ∈ lv es) : ∃ i : Nat, es[i]? = some (some x) := by
  obtain ⟨z, hz, e⟩ := List.mem_filterMap.1 h
  obtain ⟨i, hi⟩ := List.getElem?_of_mem hz
  exact ⟨i, by rw [hi]; exact congrArg some e⟩
theorem Ran.inv {ss : List Step} {s : Step} {cl : Bool} {es : List (Option Int)} {outs : List Out} (h : Ran (ss ++ [s]) cl es outs) :
    ∃ cl0 es0 outs0 E P, Ran ss cl0 es0 outs0 ∧ SR s es0 es E P ∧ cl = clr' s cl0 ∧ outs = outs0 ++ [(E, P, liv es)] := by
  generalize hq : ss ++ [s] = q at h
  cases h with
  | nil => simp at hq
  | add h hs =>
    obtain ⟨rfl, e⟩ := List.append_inj' hq rfl
    simp at e
    subst e
    exact ⟨_, _, _, _, _, h, hs, rfl, rfl⟩
theorem Ran.inv_nil {cl : Bool} {es : List (Option Int)} {outs : List Out} (h : Ran [] cl es outs) : cl = true ∧ es = [] ∧ outs = [] := by
  generalize hq : ([] : List Step) = q at h
  cases h with
  | nil => exact ⟨rfl, rfl, rfl⟩
  | add h hs => simp at hq
theorem Good.nil : Good [] := fun i s h => by simp at h
theorem Good.snoc {ss : List Step} {s : Step} (h : Good ss) (hs : ∀ cl es outs, Ran ss cl es outs → SOk s es cl) : Good (ss ++ [s]) := fun i t ht cl es outs hr => by
  by_cases hi : i < ss.length
  · rw [List.getElem?_append_left hi] at ht
    rw [List.take_append_of_le_length (by omega)] at hr
    exact h i t ht cl es outs hr
  · have hlt := (List.getElem?_eq_some_iff.1 ht).1
    simp at hlt
    have e : i = ss.length := by omega
    subst e
    rw [List.getElem?_append_right (Nat.le_refl _)] at ht
    simp at ht
    subst ht
    rw [List.take_left] at hr
    exact hs cl es outs hr
/-- Priorities put. -/
theorem puts_law {ss : List Step} {b : Int} : ∀ {k : Nat} {xs : List Int} {cl : Bool} {es : List (Option Int)} {outs : List Out}, xs.length = k → Ran (ss ++ putsOf b xs) cl es outs → ∃ es0 outs0 o, Ran ss cl es0 outs0 ∧ es = es0 ++ xs.map (fun x => some (x + b)) ∧ outs = outs0 ++ o ∧ o.length = k := by
  intro k
  induction k with
  | zero =>
    intro xs cl es outs hx h
    obtain rfl := List.length_eq_zero_iff.1 hx
    simp only [putsOf, List.map_nil, List.append_nil] at h
    exact ⟨es, outs, [], h, by simp, by simp, rfl⟩
  | succ k ih =>
    intro xs cl es outs hx h
    rcases List.eq_nil_or_concat xs with rfl | ⟨ys, y, rfl⟩
    · simp at hx
    · have e : ss ++ putsOf b (ys.concat y) = (ss ++ putsOf b ys) ++ [.put (y + b)] := by simp [putsOf]
      rw [e] at h
      obtain ⟨cl0, es0, outs0, E, P, h1, h2, h3, h4⟩ := h.inv
      obtain ⟨es1, outs1, o, g1, g2, g3, g4⟩ := ih (by simp at hx; exact hx) h1
      have h3 : cl = cl0 := h3
      subst h3
      refine ⟨es1, outs1, o ++ [(E, P, liv es)], g1, ?_, ?_, by simp [g4]⟩
      · rw [h2.1, g2]; simp
      · rw [h4, g3]; simp
theorem lv_puts (es : List (Option Int)) (b : Int) (xs : List Int) : lv (es ++ xs.map (fun x => some (x + b))) = lv es ++ xs.map (· + b) := by
  unfold lv
  rw [List.filterMap_append]
  congr 1
  induction xs with
  | nil => rfl
  | cons x t ih => simp [ih]
def pri (o : List Out) : List Int := o.map fun x => x.2.1
/-- Priorities taken out. -/
theorem gets_law {ss : List Step} : ∀ {k : Nat} {cl : Bool} {es : List (Option Int)} {outs : List Out}, Ran (ss ++ List.replicate k .get) cl es outs →
    ∃ es0 outs0 o, Ran ss cl es0 outs0 ∧ outs = outs0 ++ o ∧ o.length = k ∧ (pri o ++ lv es).Perm (lv es0) ∧ (pri o).Pairwise (· ≤ ·) ∧ (∀ p ∈ pri o, ∀ x ∈ lv es, p ≤ x) ∧ es.length = es0.length := by
  intro k
  induction k with
  | zero =>
    intro cl es outs h
    simp only [List.replicate_zero, List.append_nil] at h
    exact ⟨es, outs, [], h, by simp, rfl, by simp [pri], by simp [pri], by simp [pri], rfl⟩
  | succ k ih =>
    intro cl es outs h
    have e : ss ++ List.replicate (k + 1) Step.get = (ss ++ List.replicate k .get) ++ [.get] := by rw [List.replicate_succ']; simp
    rw [e] at h
    obtain ⟨cl0, es1, outs1, E, P, h1, ⟨i, h2, h3, h4, h5⟩, h6, h7⟩ := h.inv
    obtain ⟨es0, outs0, o, g1, g2, g3, g4, g5, g6, g7⟩ := ih h1
    have h6 : cl = cl0 := h6
    subst h6
    have hp := lv_set h2
    rw [← h5] at hp
    have hsub : ∀ x ∈ lv es, x ∈ lv es1 := fun x hx => hp.subset (by simp [hx])
    have hP : P ∈ lv es1 := hp.subset (by simp)
    have hmin : ∀ x ∈ lv es1, P ≤ x := fun x hx => by obtain ⟨j, hj⟩ := lv_mem hx; exact h4 j x hj
    have e2 : pri (o ++ [(E, P, liv es)]) = pri o ++ [P] := by simp [pri]
    refine ⟨es0, outs0, o ++ [(E, P, liv es)], g1, by rw [h7, g2]; simp, by simp [g3], ?_, ?_, ?_, by rw [h5, List.length_set, g7]⟩
    · rw [e2, List.append_assoc]
      exact (hp.append_left (pri o)).trans g4
    · rw [e2, List.pairwise_append]
      exact ⟨g5, by simp, fun a ha b hb => by simp at hb; subst hb; exact g6 a ha b hP⟩
    · rw [e2]
      intro p hpm x hx
      rcases List.mem_append.1 hpm with h | h
      · exact g6 p h x (hsub x hx)
      · simp at h; subst h; exact hmin x (hsub x hx)
theorem Good.gets {ss : List Step} (h : Good ss) : ∀ {k : Nat}, (∀ cl es outs, Ran ss cl es outs → k ≤ (lv es).length) → Good (ss ++ List.replicate k .get) := by
  intro k
  induction k with
  | zero => intro _; simpa using h
  | succ k ih =>
    intro hk
    have e : ss ++ List.replicate (k + 1) Step.get = (ss ++ List.replicate k .get) ++ [.get] := by rw [List.replicate_succ']; simp
    rw [e]
    refine Good.snoc (ih fun cl es outs hr => by have := hk cl es outs hr; omega) fun cl es outs hr => ?_
    obtain ⟨es0, outs0, o, g1, g2, g3, g4, _⟩ := gets_law hr
    have h1 := hk _ _ _ g1
    have h2 := g4.length_eq
    simp [pri, g3] at h2
    cases hl : lv es with
    | nil => rw [hl] at h2; simp at h2; omega
    | cons x t =>
      obtain ⟨i, hi⟩ := lv_mem (es := es) (x := x) (by rw [hl]; simp)
      exact ⟨i, x, hi⟩
theorem Good.puts {ss : List Step} (h : Good ss) {b : Int} : ∀ {k : Nat} {xs : List Int}, xs.length = k → (∀ x ∈ xs, -1000000 ≤ x + b ∧ x + b ≤ 1000000) → (∀ cl es outs, Ran ss cl es outs → es.length + k < 800) → Good (ss ++ putsOf b xs) := by
  intro k
  induction k with
  | zero => intro xs hx _ _; obtain rfl := List.length_eq_zero_iff.1 hx; simpa [putsOf] using h
  | succ k ih =>
    intro xs hx hb hl
    rcases List.eq_nil_or_concat xs with rfl | ⟨ys, y, rfl⟩
    · simp at hx
    · have e : ss ++ putsOf b (ys.concat y) = (ss ++ putsOf b ys) ++ [.put (y + b)] := by simp [putsOf]
      rw [e]
      have hyl : ys.length = k := by simp at hx; exact hx
      refine Good.snoc (ih hyl (fun x hx => hb x (by simp [hx])) (fun cl es outs hr => by have := hl cl es outs hr; omega)) fun cl es outs hr => ?_
      obtain ⟨es0, outs0, o, g1, g2, _, _⟩ := puts_law hyl hr
      have h1 := hl _ _ _ g1
      have h2 := hb y (by simp)
      exact ⟨h2.1, h2.2, by rw [g2]; simp; omega⟩
/-- Sorted lists with the same elements are the same. -/
theorem sorted_same : ∀ {l r : List Int}, l.Pairwise (· ≤ ·) → r.Pairwise (· ≤ ·) → l.Perm r → l = r
  | [], r, _, _, h => (List.nil_perm.1 h).symm
  | a :: l, [], _, _, h => absurd h.length_eq (by simp)
  | a :: l, b :: r, h1, h2, h => by
    obtain ⟨h3, h4⟩ := List.pairwise_cons.1 h1
    obtain ⟨h5, h6⟩ := List.pairwise_cons.1 h2
    have ha : a ∈ b :: r := h.subset (by simp)
    have hb : b ∈ a :: l := h.symm.subset (by simp)
    have e : a = b := by
      simp only [List.mem_cons] at ha hb
      rcases ha with ha | ha
      · exact ha
      · rcases hb with hb | hb
        · exact hb.symm
        · have k1 := h5 a ha; have k2 := h3 b hb; omega
    subst e
    rw [sorted_same h4 h6 ((List.perm_cons a).1 h)]
end FH
end Go.Proofs.Ytalphojbkeleiaa
