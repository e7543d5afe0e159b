/- The laws' scripts. -/
import Derived.Test.YtalphojbkeleiaaHI
namespace Go.Proofs.Ytalphojbkeleiaa
namespace FH
open Go.RowKit

theorem Ran.drop {ss : List Step} {cl : Bool} {es : List (Option Int)} {outs0 o : List Out} (h : Ran ss cl es outs0) : (outs0 ++ o).drop ss.length = o := by rw [← h.len, List.drop_left]
/-- All that is left comes out. -/
theorem fin_law {ss : List Step} {ys : List Int} (hg : Good ss) (hlv : ∀ cl es outs, Ran ss cl es outs → (lv es).Perm ys) :
    Good (ss ++ List.replicate ys.length Step.get) ∧ (∀ cl es outs, Ran (ss ++ List.replicate ys.length Step.get) cl es outs → liv es = 0) ∧
    ∀ cl es outs, Ran (ss ++ List.replicate ys.length Step.get) cl es outs → (pri (outs.drop ss.length)).Perm ys ∧ (pri (outs.drop ss.length)).Pairwise (· ≤ ·) := by
  have key : ∀ cl es outs, Ran (ss ++ List.replicate ys.length Step.get) cl es outs → liv es = 0 ∧ (pri (outs.drop ss.length)).Perm ys ∧ (pri (outs.drop ss.length)).Pairwise (· ≤ ·) := fun cl es outs h => by
    obtain ⟨es0, outs0, o, g1, g2, g3, g4, g5, _, _⟩ := gets_law h
    have h1 := g4.trans (hlv _ _ _ g1)
    have h2 := h1.length_eq
    simp [pri, g3] at h2
    have h3 : lv es = [] := by cases hl : lv es with
      | nil => rfl
      | cons x t => rw [hl] at h2; simp at h2
    rw [g2, g1.drop]
    rw [h3, List.append_nil] at h1
    exact ⟨by rw [liv_lv, h3]; rfl, h1, g5⟩
  exact ⟨hg.gets fun cl es outs h => by rw [(hlv _ _ _ h).length_eq]; exact Nat.le_refl _, fun cl es outs h => (key _ _ _ h).1, fun cl es outs h => (key _ _ _ h).2⟩
section
variable {xs : List Int} (hs : ∀ x ∈ xs, Small x) (hn : xs.length ≤ 30)
include hs hn
theorem puts_good : Good (putsOf 0 xs) := by
  have h := Good.puts (ss := []) Good.nil (b := 0) (k := xs.length) (xs := xs) rfl (fun x hx => by obtain ⟨h1, h2⟩ := hs x hx; omega) (fun cl es outs h => by obtain ⟨_, rfl, _⟩ := h.inv_nil; simp; omega)
  simpa using h
omit hs hn in
theorem puts_es {cl : Bool} {es : List (Option Int)} {outs : List Out} (h : Ran (putsOf 0 xs) cl es outs) : cl = true ∧ es = xs.map some := by
  have h : Ran ([] ++ putsOf 0 xs) cl es outs := h
  obtain ⟨es0, outs0, o, h1, h2, _, _⟩ := puts_law rfl h
  obtain ⟨h3, rfl, _⟩ := h1.inv_nil
  exact ⟨h3, by rw [h2]; simp⟩
omit hs hn in
theorem lv_some (l : List Int) : lv (l.map some) = l := by
  unfold lv
  induction l with
  | nil => rfl
  | cons x t ih => simp [ih]
omit hs hn in
theorem puts_lv {cl : Bool} {es : List (Option Int)} {outs : List Out} (h : Ran (putsOf 0 xs) cl es outs) : (lv es).Perm xs := by
  rw [(puts_es h).2, lv_some]
/-- The priorities and one more. -/
theorem more_good {p : Int} (hp : -1000000 ≤ p ∧ p ≤ 1000000) : Good (putsOf 0 xs ++ [.put p]) :=
  (puts_good hs hn).snoc fun cl es outs h => ⟨hp.1, hp.2, by rw [(puts_es h).2]; simp; omega⟩
omit hs hn in
theorem more_es {p : Int} {cl : Bool} {es : List (Option Int)} {outs : List Out} (h : Ran (putsOf 0 xs ++ [.put p]) cl es outs) : cl = true ∧ es = xs.map some ++ [some p] := by
  obtain ⟨cl0, es0, outs0, E, P, h1, h2, h3, _⟩ := h.inv
  obtain ⟨h4, h5⟩ := puts_es h1
  exact ⟨by rw [h3]; exact h4, by rw [h2.1, h5]⟩
theorem same_get : Good ((putsOf 0 xs ++ [.put (-131072)]) ++ [.get]) ∧ ∀ cl es outs, Ran ((putsOf 0 xs ++ [.put (-131072)]) ++ [.get]) cl es outs → (lv es).Perm xs := by
  refine ⟨(more_good hs hn (by omega)).snoc fun cl es outs h => ⟨xs.length, -131072, by rw [(more_es h).2]; simp⟩, fun cl es outs h => ?_⟩
  obtain ⟨cl0, es0, outs0, E, P, h1, ⟨i, h2, h3, h4, h5⟩, _, _⟩ := h.inv
  have he := (more_es h1).2
  have hl : lv es0 = xs ++ [-131072] := by rw [he]; unfold lv; rw [List.filterMap_append]; congr 1; exact lv_some xs
  have hp := lv_set h2
  rw [← h5, hl] at hp
  have h6 : P ≤ -131072 := h4 xs.length (-131072) (by rw [he]; simp)
  have h7 : P = -131072 := by
    have hm : P ∈ xs ++ [-131072] := hp.subset (by simp)
    rcases List.mem_append.1 hm with hm | hm
    · have := (hs P hm).1; omega
    · simpa using hm
  rw [h7] at hp
  have hp2 : (-131072 :: lv es).Perm (-131072 :: xs) := hp.trans (List.perm_append_comm (l₁ := xs) (l₂ := [-131072]))
  exact (List.perm_cons _).1 hp2
theorem same_del : Good ((putsOf 0 xs ++ [.put (-131072)]) ++ [.del xs.length]) ∧ ∀ cl es outs, Ran ((putsOf 0 xs ++ [.put (-131072)]) ++ [.del xs.length]) cl es outs → (lv es).Perm xs := by
  refine ⟨(more_good hs hn (by omega)).snoc fun cl es outs h => ⟨(more_es h).1, -131072, by rw [(more_es h).2]; simp⟩, fun cl es outs h => ?_⟩
  obtain ⟨cl0, es0, outs0, E, P, h1, ⟨h2, _, _⟩, _, _⟩ := h.inv
  have he := (more_es h1).2
  have hl : lv es0 = xs ++ [-131072] := by rw [he]; unfold lv; rw [List.filterMap_append]; congr 1; exact lv_some xs
  have hp := lv_set (es := es0) (i := xs.length) (p := -131072) (by rw [he]; simp)
  rw [← h2, hl] at hp
  have hp2 : (-131072 :: lv es).Perm (-131072 :: xs) := hp.trans (List.perm_append_comm (l₁ := xs) (l₂ := [-131072]))
  exact (List.perm_cons _).1 hp2
end
end FH
end Go.Proofs.Ytalphojbkeleiaa
