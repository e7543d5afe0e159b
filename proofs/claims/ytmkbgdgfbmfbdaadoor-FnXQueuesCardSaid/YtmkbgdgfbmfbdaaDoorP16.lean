/- Scripts of puts with one taking behind: plain; dxGot of them. -/
import Derived.Test.YtmkbgdgfbmfbdaaDoorP15
namespace Go.Proofs.YtmkbgdgfbmfbdaaDoor
open Go.RowKit

theorem Ran.snoc {dup : Bool} {ss : List Step} {s : Step} {ys ks' : List Item} {outs' : List (List Item)} (h : Ran dup (ss ++ [s]) ys ks' outs') : ∃ xs ks outs o, Ran dup ss xs ks outs ∧ SR dup s xs ks ys ks' o ∧ outs' = outs ++ [o] := by
  generalize hs : ss ++ [s] = tt at h
  cases h with
  | nil => simp at hs
  | @add ss' s' xs ks _ _ o outs h h2 =>
    obtain ⟨h3, h4⟩ := List.append_inj' hs rfl
    simp at h4
    subst h3 h4
    exact ⟨xs, ks, outs, o, h, h2, rfl⟩
theorem Ran.none {dup : Bool} {xs ks : List Item} {outs : List (List Item)} (h : Ran dup [] xs ks outs) : xs = [] ∧ ks = [] ∧ outs = [] := by
  generalize hs : ([] : List Step) = tt at h
  cases h with
  | nil => exact ⟨rfl, rfl, rfl⟩
  | add h h2 => simp at hs
theorem snoc_ind {α : Type} {P : List α → Prop} (h0 : P []) (h1 : ∀ l a, P l → P (l ++ [a])) : ∀ l, P l := by
  have key : ∀ l : List α, P l.reverse := by
    intro l
    induction l with
    | nil => exact h0
    | cons a l ih => rw [List.reverse_cons]; exact h1 _ _ ih
  intro l
  have h := key l.reverse
  rwa [List.reverse_reverse] at h
theorem ran_puts : ∀ (cs : List (List Item)) {xs ks : List Item} {outs : List (List Item)}, Ran true (cs.map Step.put) xs ks outs → xs.Perm cs.flatten ∧ ks = [] ∧ outs.flatten = [] := by
  refine snoc_ind ?_ ?_
  · intro xs ks outs h; obtain ⟨rfl, rfl, rfl⟩ := Ran.none h; exact ⟨List.Perm.refl _, rfl, rfl⟩
  · intro cs c ih xs ks outs h
    rw [List.map_append] at h
    obtain ⟨x0, k0, o0, o, h1, h2, rfl⟩ := Ran.snoc h
    obtain ⟨h3, rfl, h5⟩ := ih h1
    obtain ⟨h6, h7, rfl⟩ := h2
    refine ⟨?_, by rw [h7]; rfl, by simp [h5]⟩
    rw [List.flatten_append]
    simp only [List.flatten_cons, List.flatten_nil, List.append_nil]
    exact h6.trans (List.Perm.append_right _ h3)
def scriptOf (cs : List (List Item)) (N : Nat) : List Step := cs.map Step.put ++ [Step.get N]
theorem script_ran {cs : List (List Item)} {N : Nat} {xs ks : List Item} {outs : List (List Item)} (h : Ran true (scriptOf cs N) xs ks outs) : outs.flatten.Perm cs.flatten ∧ Asc (keysOf outs.flatten) := by
  obtain ⟨x0, k0, o0, o, h1, h2, rfl⟩ := Ran.snoc h
  obtain ⟨h3, h4, h5⟩ := ran_puts cs h1
  obtain ⟨h6, h7, _⟩ := h2
  rw [List.flatten_append, h5]
  simp only [List.flatten_cons, List.flatten_nil, List.append_nil, List.nil_append]
  exact ⟨h6.trans h3, h7⟩
theorem script_good {cs : List (List Item)} {N : Nat} (hne : ∀ c ∈ cs, c ≠ []) (hl : cs.flatten.length ≤ 100) (h0 : cs.flatten ≠ []) (hN : cs.flatten.length ≤ N) (hN2 : N ≤ 1000) : Good true (scriptOf cs N) := by
  intro i s hs xs ks outs hr
  by_cases hi : i < cs.length
  · rw [scriptOf, List.getElem?_append_left (by simpa using hi), List.getElem?_map, List.getElem?_eq_getElem hi] at hs
    simp at hs
    subst hs
    rw [scriptOf, List.take_append_of_le_length (by simp; omega), ← List.map_take] at hr
    obtain ⟨h1, rfl, _⟩ := ran_puts _ hr
    have hmem := List.getElem_mem hi
    refine ⟨hne _ hmem, ?_, by simp⟩
    rw [h1.length_eq]
    have e : cs.flatten.length = (cs.take i).flatten.length + (cs[i].length + (cs.drop (i + 1)).flatten.length) := by
      conv => lhs; rw [← List.take_append_drop i cs, List.drop_eq_getElem_cons hi]
      rw [List.flatten_append, List.flatten_cons, List.length_append, List.length_append]
    omega
  · have hlt := (List.getElem?_eq_some_iff.1 hs).1
    simp [scriptOf] at hlt
    have e : i = cs.length := by omega
    subst e
    rw [scriptOf, List.getElem?_append_right (by simp)] at hs
    simp at hs
    subst hs
    rw [scriptOf, List.take_append_of_le_length (by simp)] at hr
    rw [List.take_of_length_le (by simp)] at hr
    obtain ⟨h1, rfl, _⟩ := ran_puts _ hr
    refine ⟨fun e => h0 (by rw [e] at h1; exact h1.symm.eq_nil), by simp, by rw [h1.length_eq]; exact hN, hN2⟩
theorem chunks_flat {m : Nat} (hm : 1 ≤ m) : ∀ (f : Nat) (l : List Item), l.length ≤ f → (chunks m f l).flatten = l := by
  intro f
  induction f with
  | zero => intro l hl; rw [List.length_eq_zero_iff.1 (Nat.le_zero.1 hl)]; rfl
  | succ f ih =>
    intro l hl
    simp only [chunks]
    split
    · rename_i h; rw [h]; rfl
    · rename_i h
      have := List.length_pos_iff.2 h
      rw [List.flatten_cons, ih _ (by simp; omega), List.take_append_drop]
theorem chunks_ne {m : Nat} (hm : 1 ≤ m) : ∀ (f : Nat) (l : List Item), ∀ c ∈ chunks m f l, c ≠ [] := by
  intro f
  induction f with
  | zero => intro l c hc; simp [chunks] at hc
  | succ f ih =>
    intro l c hc
    simp only [chunks] at hc
    split at hc
    · simp at hc
    · rename_i h
      rcases List.mem_cons.1 hc with h1 | h1
      · rw [h1]
        have := List.length_pos_iff.2 h
        intro e
        have h2 := congrArg List.length e
        rw [List.length_take, List.length_nil] at h2
        omega
      · exact ih _ c h1
theorem chunks_len {m : Nat} : ∀ (f : Nat) (l : List Item), (chunks m f l).length ≤ f := by
  intro f
  induction f with
  | zero => intro l; simp [chunks]
  | succ f ih =>
    intro l
    simp only [chunks]
    split
    · simp
    · have := ih (l.drop m); simp; omega
/-- What such a script hands out: the keys, ascending. -/
def Sorted (its : List Item) (w : World) (e : Ending) (w' : World) : Prop := ∃ so n cp ks, e = .returned (.tuple #[.slice so n cp, .bool true]) ∧ Ints w' (.slice so n cp) ks ∧ Asc ks ∧ ks.Perm (keysOf its) ∧ ks.length = n ∧ Below w.heap.size w w'
theorem got_script {w : World} {h n cp : Nat} {so : Option Addr} {cs : List (List Item)} {N : Nat} (hh : h ≤ 64) (hs : Steps w (.slice so n cp) (scriptOf cs N)) (hl : cs.length ≤ 99) (hne : ∀ c ∈ cs, c ≠ []) (hfl : cs.flatten.length ≤ 100) (h0 : cs.flatten ≠ []) (hN : cs.flatten.length ≤ N) (hN2 : N ≤ 1000) :
    Calls Tryd.prog 12 #[.int .i64 h, .bool true, .slice so n cp] w (Sorted cs.flatten w) := by
  refine (got_any hh hs (by simp [scriptOf]; omega) (script_good hne hfl h0 hN hN2) (fun xs ks outs hr => ?_)).mono ?_
  · rw [(script_ran hr).1.length_eq]; omega
  · rintro e w' ⟨sv, xs, ks, outs, rfl, hr, hi, hb⟩
    obtain ⟨so, cp, rfl⟩ := hi.shape
    obtain ⟨h1, h2⟩ := script_ran hr
    exact ⟨so, _, cp, _, rfl, hi, h2, h1.map _, by simp, hb⟩
end Go.Proofs.YtmkbgdgfbmfbdaaDoor
