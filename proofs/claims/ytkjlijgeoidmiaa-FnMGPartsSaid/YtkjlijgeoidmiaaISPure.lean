/- A number put into an ascending list, in plain Lean. -/
import Derived.Lib.SlicesCompact
import Derived.Shelf.SlCmpFuncs.IsSortedFunc
namespace Go.Proofs.Ytkjlijgeoidmiaa
open Go.Lib

abbrev Asc (s : List Int) : Prop := s.Pairwise (· < ·)
/-- A number put into an ascending list. -/
def ins : List Int → Int → List Int
  | [], x => [x]
  | y :: t, x => if x < y then x :: y :: t else if x = y then y :: t else y :: ins t x
theorem mem_ins {z x : Int} : ∀ {s : List Int}, z ∈ ins s x ↔ z = x ∨ z ∈ s
  | [] => by simp [ins]
  | y :: t => by
    unfold ins
    split
    · simp
    · split
      · rename_i h; subst h; simp
      · simp only [List.mem_cons, mem_ins (s := t)]
        constructor
        · rintro (h | h | h) <;> simp [h]
        · rintro (h | h | h) <;> simp [h]
theorem asc_ins {x : Int} : ∀ {s : List Int}, Asc s → Asc (ins s x)
  | [], _ => by simp [ins]
  | y :: t, h => by
    have h' := List.pairwise_cons.1 h
    unfold ins
    split
    · rename_i hxy
      refine List.pairwise_cons.2 ⟨fun z hz => ?_, h⟩
      rcases List.mem_cons.1 hz with rfl | hz
      · exact hxy
      · have := h'.1 z hz; omega
    · split
      · exact h
      · refine List.pairwise_cons.2 ⟨fun z hz => ?_, asc_ins h'.2⟩
        rcases mem_ins.1 hz with rfl | hz
        · omega
        · exact h'.1 z hz
theorem len_ins {x : Int} : ∀ {s : List Int}, s.length ≤ (ins s x).length ∧ (ins s x).length ≤ s.length + 1
  | [] => by simp [ins]
  | y :: t => by
    have := len_ins (x := x) (s := t)
    unfold ins
    split
    · simp
    · split <;> simp <;> omega
theorem asc_ext : ∀ {s t : List Int}, Asc s → Asc t → (∀ z, z ∈ s ↔ z ∈ t) → s = t
  | [], [], _, _, _ => rfl
  | [], b :: t, _, _, h => by have := (h b).2 (by simp); simp at this
  | a :: s, [], _, _, h => by have := (h a).1 (by simp); simp at this
  | a :: s, b :: t, hs, ht, h => by
    have hs' := List.pairwise_cons.1 hs
    have ht' := List.pairwise_cons.1 ht
    have hab : a = b := by
      have h1 := (h a).1 (by simp)
      have h2 := (h b).2 (by simp)
      rcases List.mem_cons.1 h1 with e | h1
      · exact e
      · rcases List.mem_cons.1 h2 with e | h2
        · exact e.symm
        · have := ht'.1 a h1; have := hs'.1 b h2; omega
    subst hab
    have := asc_ext hs'.2 ht'.2 fun z => by
      have hz := h z
      simp only [List.mem_cons] at hz
      constructor
      · intro m
        rcases hz.1 (Or.inr m) with rfl | m'
        · have := hs'.1 z m; omega
        · exact m'
      · intro m
        rcases hz.2 (Or.inr m) with rfl | m'
        · have := ht'.1 z m; omega
        · exact m'
    rw [this]
/-- Two numbers put in, in either order. -/
theorem ins_comm {s : List Int} (h : Asc s) (x y : Int) : ins (ins s x) y = ins (ins s y) x :=
  asc_ext (asc_ins (asc_ins h)) (asc_ins (asc_ins h)) fun z => by
    simp only [mem_ins]
    constructor
    · rintro (h | h | h) <;> simp [h]
    · rintro (h | h | h) <;> simp [h]
theorem ins_same {s : List Int} (h : Asc s) {x : Int} (hx : x ∈ s) : ins s x = s :=
  asc_ext (asc_ins h) h fun z => by
    rw [mem_ins]
    constructor
    · rintro (rfl | h)
      · exact hx
      · exact h
    · exact Or.inr
/-- How many are less. -/
def less (s : List Int) (x : Int) : Nat := s.countP fun y => !decide (x ≤ y)
theorem less_le (s : List Int) (x : Int) : less s x ≤ s.length := List.countP_le_length
theorem less_zero {s : List Int} {x : Int} (h : ∀ y ∈ s, x ≤ y) : less s x = 0 := by
  unfold less
  rw [List.countP_eq_zero]
  intro y hy
  simp [h y hy]
theorem ins_at : ∀ {s : List Int} {x : Int}, Asc s → ins s x = if s[less s x]? = some x then s else s.take (less s x) ++ x :: s.drop (less s x)
  | [], x, _ => by simp [ins, less]
  | y :: t, x, h => by
    have h' := List.pairwise_cons.1 h
    unfold ins
    by_cases h1 : x < y
    · have h0 : less (y :: t) x = 0 := less_zero fun z hz => by
        rcases List.mem_cons.1 hz with rfl | hz
        · omega
        · have := h'.1 z hz; omega
      have hne : ¬ y = x := by omega
      rw [if_pos h1, h0]
      simp [hne]
    · rw [if_neg h1]
      by_cases h2 : x = y
      · subst h2
        have h0 : less (x :: t) x = 0 := less_zero fun z hz => by
          rcases List.mem_cons.1 hz with rfl | hz
          · omega
          · have := h'.1 z hz; omega
        rw [if_pos rfl, h0]
        simp
      · have h0 : less (y :: t) x = less t x + 1 := by
          unfold less
          rw [List.countP_cons_of_pos]
          simp; omega
        rw [if_neg h2, h0, ins_at h'.2]
        simp only [List.getElem?_cons_succ, List.take_succ_cons, List.drop_succ_cons]
        split <;> simp
theorem has_at : ∀ {s : List Int} {x : Int}, Asc s → (x ∈ s ↔ s[less s x]? = some x)
  | [], x, _ => by simp
  | y :: t, x, h => by
    have h' := List.pairwise_cons.1 h
    by_cases h1 : x ≤ y
    · have h0 : less (y :: t) x = 0 := less_zero fun z hz => by
        rcases List.mem_cons.1 hz with rfl | hz
        · exact h1
        · have := h'.1 z hz; omega
      rw [h0]
      simp only [List.mem_cons, List.length_cons, Nat.zero_lt_succ, List.getElem?_cons_zero, Option.some.injEq]
      constructor
      · rintro (h | h)
        · exact h.symm
        · have := h'.1 x h; omega
      · intro h; exact Or.inl h.symm
    · have h0 : less (y :: t) x = less t x + 1 := by
        unfold less
        rw [List.countP_cons_of_pos]
        simp; omega
      rw [h0, List.getElem?_cons_succ, ← has_at h'.2, List.mem_cons]
      constructor
      · rintro (h | h)
        · omega
        · exact h
      · exact Or.inr
theorem asc_mono {s : List Int} (h : Asc s) (x : Int) : ∀ a b, a ≤ b → b < s.toArray.size → decide (x ≤ s.toArray[a]!) = true → decide (x ≤ s.toArray[b]!) = true := by
  intro a b hab hb ha
  have hb' : b < s.length := by simpa using hb
  simp only [decide_eq_true_eq] at ha ⊢
  rcases Nat.lt_or_ge a b with hlt | hge
  · have := List.pairwise_iff_getElem.1 h a b (by omega) hb' hlt
    rw [getElem!_pos _ _ (by simpa using hb'), List.getElem_toArray]
    rw [getElem!_pos _ _ (by simp; omega), List.getElem_toArray] at ha
    omega
  · have : a = b := by omega
    subst this; exact ha
theorem downOK_asc {s : List Int} (h : Asc s) : downOK (fun x y => decide (x < y)) s.toArray (s.toArray.size - 1) = true := by
  rw [downOK_iff]
  intro i hi
  have hi' : i + 1 < s.length := by simp at hi; omega
  rw [getElem!_pos _ _ (by simpa using hi'), getElem!_pos _ _ (by simp; omega)]
  have := List.pairwise_iff_getElem.1 h i (i + 1) (by omega) hi' (by omega)
  simp
  omega
theorem compactUpTo_asc {s : List Int} (h : s.Pairwise (· ≤ ·)) : ∀ m, m ≤ s.length → Asc (compactUpTo s.toArray m) ∧ ∀ y ∈ compactUpTo s.toArray m, 0 < m ∧ y ≤ s.toArray[m - 1]!
  | 0, _ => by simp [compactUpTo]
  | m + 1, hm => by
    have ih := compactUpTo_asc h m (by omega)
    have hlt : m < s.length := by omega
    have hle : 0 < m → s.toArray[m - 1]! ≤ s.toArray[m]! := fun h0 => by
      rw [getElem!_pos _ _ (by simp; omega), getElem!_pos _ _ (by simpa using hlt)]
      exact List.pairwise_iff_getElem.1 h (m - 1) m (by omega) hlt (by omega)
    rw [compactUpTo_succ]
    by_cases hk : keeps s.toArray m = true
    · rw [if_pos hk]
      have hne : m = 0 ∨ s.toArray[m]! ≠ s.toArray[m - 1]! := by simpa [keeps] using hk
      refine ⟨List.pairwise_append.2 ⟨ih.1, by simp, fun a ha b hb => ?_⟩, fun y hy => ⟨by omega, ?_⟩⟩
      · have h1 := ih.2 a ha
        simp only [List.mem_singleton] at hb
        subst hb
        have h2 := hle h1.1
        rcases hne with h0 | hne
        · omega
        · omega
      · rw [Nat.add_sub_cancel]
        rcases List.mem_append.1 hy with hy | hy
        · have h1 := ih.2 y hy
          have h2 := hle h1.1
          omega
        · simp only [List.mem_singleton] at hy
          subst hy
          exact Int.le_refl _
    · rw [if_neg hk, List.append_nil]
      refine ⟨ih.1, fun y hy => ⟨by omega, ?_⟩⟩
      have h1 := ih.2 y hy
      have h2 := hle h1.1
      rw [Nat.add_sub_cancel]
      omega
theorem compact_asc {s : List Int} (h : s.Pairwise (· ≤ ·)) : Asc (compact s) := (compactUpTo_asc h s.length (Nat.le_refl _)).1
theorem compact_len (s : List Int) : (compact s).length ≤ s.length := by
  unfold compact compactUpTo
  rw [List.length_map]
  exact Nat.le_trans (List.length_filter_le _ _) (by simp)
theorem compact_pos {s : List Int} (h : 0 < s.length) : 0 < (compact s).length := by
  unfold compact compactUpTo
  rw [List.length_map, List.length_pos_iff_exists_mem]
  exact ⟨0, List.mem_filter.2 ⟨by simpa using h, by simp [keeps]⟩⟩
theorem mem_compact {s : List Int} {z : Int} (h : z ∈ compact s) : z ∈ s := by
  unfold compact compactUpTo at h
  obtain ⟨j, hj, rfl⟩ := List.mem_map.1 h
  have hj' : j < s.length := by simpa using (List.mem_filter.1 hj).1
  rw [getElem!_pos _ _ (by simpa using hj'), List.getElem_toArray]
  exact List.getElem_mem _
end Go.Proofs.Ytkjlijgeoidmiaa
