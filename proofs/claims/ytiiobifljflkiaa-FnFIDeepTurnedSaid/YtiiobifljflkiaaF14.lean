/- With some bits of all keys turned the dictionaries are each other's, turned. -/
import Derived.Test.YtiiobifljflkiaaF13
namespace Go.Proofs.Ytiiobifljflkiaa
open Go.RowKit FI

def turn (b : Nat) (x : Stp) : Stp := ⟨x.op, x.key ^^^ b, x.val⟩
theorem xor_inj {a c b : Nat} : a ^^^ b = c ^^^ b ↔ a = c := ⟨fun h => by
  have := congrArg (· ^^^ b) h
  simpa [Nat.xor_assoc] using this, fun h => by rw [h]⟩
theorem turn_at (b : Nat) (xs : List Stp) {i : Nat} (h : i < xs.length) : (xs.map (turn b)).getD i stp0 = turn b (xs.getD i stp0) := by simp [h]
theorem after_turn (b : Nat) (xs : List Stp) : ∀ i, i ≤ xs.length → (∀ q, (after (xs.map (turn b)) i).D (q ^^^ b) = (after xs i).D q) ∧ (after (xs.map (turn b)) i).c = (after xs i).c
  | 0, _ => ⟨fun _ => rfl, rfl⟩
  | i + 1, h => by
    obtain ⟨h1, h2⟩ := after_turn b xs i (by omega)
    rw [after_succ (by rw [List.length_map]; omega), after_succ h, turn_at b xs (by omega)]
    generalize after (xs.map (turn b)) i = t at *
    generalize after xs i = s at *
    generalize xs.getD i stp0 = x
    unfold nxt turn
    simp only
    by_cases e1 : x.op = 1
    · rw [if_pos e1, if_pos e1]
      refine ⟨fun q => ?_, by simp [h2]⟩
      simp only [setD, xor_inj, h1]
    · rw [if_neg e1, if_neg e1]
      by_cases e4 : x.op = 4
      · rw [if_pos e4, if_pos e4]
        refine ⟨fun q => ?_, by simp [h1, h2]⟩
        simp only [gone, xor_inj, h1]
      · rw [if_neg e4, if_neg e4]
        exact ⟨h1, h2⟩
theorem tell_turn (b : Nat) (xs : List Stp) {i : Nat} (h : i < xs.length) : tell (after (xs.map (turn b)) i) (turn b (xs.getD i stp0)) = tell (after xs i) (xs.getD i stp0) := by
  obtain ⟨h1, h2⟩ := after_turn b xs i (by omega)
  generalize after (xs.map (turn b)) i = t at *
  unfold tell turn
  simp only [h1, h2]
theorem after_c (xs : List Stp) : ∀ i, i ≤ xs.length → (after xs i).c ≤ i
  | 0, _ => Nat.le_refl _
  | i + 1, h => by
    have := after_c xs i (by omega)
    rw [after_succ h]
    unfold nxt
    split
    · simp only; omega
    · split
      · simp only; omega
      · omega
def lastThree : List Stp := [⟨4, 31, 0⟩, ⟨1, 31, 8⟩, ⟨2, 31, 0⟩]
theorem okay_last {S : List Stp} (h : Good S) : Okay (S ++ lastThree) := by
  intro i hi
  have hl : (S ++ lastThree).length = S.length + 3 := by simp [lastThree]
  have hc := after_c (S ++ lastThree) i (by omega)
  have hS := h.1
  refine (?_ : _ ∧ _ ∧ _ ∧ _).elim fun a b => ⟨a, b.1, b.2.1, b.2.2, by omega⟩
  rw [List.getD_eq_getElem?_getD]
  rcases Nat.lt_or_ge i S.length with h5 | h5
  · rw [List.getElem?_append_left h5, ← List.getD_eq_getElem?_getD]; exact h.2 i h5
  · rw [List.getElem?_append_right h5]
    have h6 : i - S.length = 0 ∨ i - S.length = 1 ∨ i - S.length = 2 := by omega
    rcases h6 with h6 | h6 | h6 <;> rw [h6] <;> decide
theorem okay_turn {b : Nat} (hb : b < 18446744073709551616) {xs : List Stp} (h : Okay xs) : Okay (xs.map (turn b)) := by
  intro i hi
  rw [List.length_map] at hi
  obtain ⟨h1, h2, h3, h4, h5⟩ := h i hi
  rw [turn_at b xs hi, (after_turn b xs i (by omega)).2]
  exact ⟨h1, h2, Nat.xor_lt_two_pow (n := 64) h3 hb, h4, h5⟩
theorem tell_last (S : List Stp) : tell (after (S ++ lastThree) (S.length + 2)) ((S ++ lastThree).getD (S.length + 2) stp0) = (8, true) := by
  have hl : (S ++ lastThree).length = S.length + 3 := by simp [lastThree]
  have g1 : (S ++ lastThree).getD (S.length + 1) stp0 = ⟨1, 31, 8⟩ := by
    rw [List.getD_eq_getElem?_getD, List.getElem?_append_right (by omega), show S.length + 1 - S.length = 1 by omega]; rfl
  have g2 : (S ++ lastThree).getD (S.length + 2) stp0 = ⟨2, 31, 0⟩ := by
    rw [List.getD_eq_getElem?_getD, List.getElem?_append_right (by omega), show S.length + 2 - S.length = 2 by omega]; rfl
  rw [g2, show S.length + 2 = S.length + 1 + 1 from rfl, after_succ (by omega), g1]
  generalize after (S ++ lastThree) (S.length + 1) = s
  simp [tell, nxt, setD, said]
theorem take_turn (b : Nat) {xs : List Stp} {k : Nat} (h : k < xs.length) : (xs.map (turn b)).take (k + 1) = (xs.map (turn b)).take k ++ [turn b (xs.getD k stp0)] := by
  rw [List.take_succ_eq_append_getElem (by simpa using h)]
  simp [h]
end Go.Proofs.Ytiiobifljflkiaa
