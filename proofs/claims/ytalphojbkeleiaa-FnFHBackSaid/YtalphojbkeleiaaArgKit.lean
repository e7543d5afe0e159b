/- Arguments of a law that are slices of numbers, opened as lists. -/
import Derived.Test.YtalphojbkeleiaaListKit
import Derived.Lib.SmallJoins
import Derived.ChangeSlices
namespace Go.Proofs.Ytalphojbkeleiaa
open Go.ChangeShapes Go.WideShapes Go.ChangeAt Go.RowKit Go.Joins

theorem open_ilist {H : Type} {P : Program} {enc : TypeId × Value → H} {w : World} {base fuel : Nat} {sp : Nat → Bool} {held : Bool} {t e : TypeId} {k : IntKind} {v : Value} {y : DataW H × List MemPlace} (ht : P.underlying t = some (.slice e)) (he : P.underlying e = some (.int k)) (hc : P.cellsOf e = 1)
    (h : DataW.trod enc P w base sp held fuel t [v] = some y) : ∃ (so : Option Addr) (n cp : Nat) (xs : List Int), v = .slice so n cp ∧ xs.length = n ∧ (0 < n → Vals w (.slice so n cp) (xs.map (Value.int k))) ∧ ∀ x ∈ xs, (Lit.int k x).wf = true := by
  rcases open_ints ht he hc h with ⟨h1, _⟩ | ⟨a, len, cap, zs, h1, _, h2, h3, h4, _, h6, h7⟩
  · simp at h1
    exact ⟨none, 0, 0, [], h1, rfl, fun h => absurd h (by decide), by simp⟩
  · simp at h1
    have hz : len ≤ zs.length := by rw [h4]; split <;> omega
    have hlen : (zs.take len).length = len := by simp; omega
    refine ⟨some a, len, cap, zs.take len, h1, hlen, fun hpos => ?_, fun x hx => h7 x (List.mem_of_mem_take hx)⟩
    have hc0 := h6 0 (by omega)
    obtain ⟨b, o, s⟩ := a
    have hs : s = none := by simpa [Addr.add] using World.cell?_spot hc0
    subst hs
    refine Or.inr ⟨b, o, cap, by rw [List.length_map, hlen], by rw [List.length_map, hlen]; exact h2, fun i hi => ?_⟩
    rw [List.length_map, hlen] at hi
    have h8 := h6 i (by omega)
    rw [List.getElem?_map, List.getElem?_take, if_pos hi, List.getElem?_eq_getElem (by omega)]
    rw [List.getD_eq_getElem?_getD, List.getElem?_eq_getElem (by omega)] at h8
    cases i with
    | zero => simpa [Addr.add] using h8
    | succ i => simpa [Addr.add] using h8
end Go.Proofs.Ytalphojbkeleiaa
