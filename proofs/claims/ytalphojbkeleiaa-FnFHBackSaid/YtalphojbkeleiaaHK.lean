/- Rows of steps: one more, a copy. -/
import Derived.Test.YtalphojbkeleiaaHJ
namespace Go.Proofs.Ytalphojbkeleiaa
namespace FH
open Go.RowKit

theorem row_app {w : World} {B N : Nat} {v : Value} {ss : List Step} {s : Step} (h : w.ownsRow B 30 4 v (N + 1) ((ss.map stp).flatten ++ stp s)) : w.ownsRow B 30 4 v (N + 1) ((ss ++ [s]).map stp).flatten := by
  rw [List.map_append, List.flatten_append]
  simpa using h
theorem stp_rows {ss : List Step} : ∀ r ∈ ss.map stp, r.length = 4 := fun r hr => by obtain ⟨s, _, rfl⟩ := List.mem_map.1 hr; exact stp_len s
theorem stp_one {ss : List Step} : ∀ u ∈ (ss.map stp).flatten, u.oneCell' = true := fun u hu => by
  obtain ⟨r, hr, hu⟩ := List.mem_flatten.1 hu
  obtain ⟨s, _, rfl⟩ := List.mem_map.1 hr
  cases s <;> (simp [stp] at hu; rcases hu with rfl | rfl | rfl | rfl <;> rfl)
theorem clone_own {w : World} {B N c : Nat} {so : Option Addr} {ss : List Step} (h : w.ownsRow B 30 4 (.slice so N c) N (ss.map stp).flatten) (h0 : 0 < N) (hN : N ≤ 200) :
    Calls Try.prog 10 #[.slice so N c] w fun e w' => ∃ s' c', e = .returned (.slice s' N c') ∧ w'.ownsRow w.heap.size 30 4 (.slice s' N c') N (ss.map stp).flatten ∧ Below w.heap.size w w' := by
  have hr : Recs w 4 (.slice so N c) (ss.map stp) := Recs.of_own (by decide) stp_rows h
  have hl : (ss.map stp).length = N := hr.len
  obtain ⟨b, o, rfl, hc⟩ := hr.cells (by decide) stp_rows h0
  refine (clone_steps (by rw [flatten_len stp_rows, hl]) (by omega) hc stp_one).mono ?_
  rintro e w' ⟨v, rfl, hown, hb⟩
  obtain ⟨s', c', rfl⟩ := own_shape hown
  exact ⟨s', c', rfl, hown, hb⟩
theorem own_recs {w : World} {B N : Nat} {v : Value} {ss : List Step} (h : w.ownsRow B 30 4 v N (ss.map stp).flatten) : Recs w 4 v (ss.map stp) := Recs.of_own (by decide) stp_rows h
theorem own_under {B B' : Nat} {w w' : World} {e : TypeId} {size n : Nat} {v : Value} {xs : List Value} (h : w.ownsRow B e size v n xs) (hb : Below B' w w') (hB : w.heap.size ≤ B') : w'.ownsRow B e size v n xs :=
  own_same h fun k _ h2 => hb.block k (by omega)
end FH
end Go.Proofs.Ytalphojbkeleiaa
