/- An argument of a law, a bitset by value, opened: its two fields. -/
import Derived.Test.YtpmnpaannbhoeaaBs5
import Derived.Lib.SmallJoins
import Derived.ChangeSlices
namespace Go.Proofs.Ytpmnpaannbhoeaa
open Go.ChangeShapes Go.WideShapes Go.ChangeAt Go.RowKit Go.Joins

theorem open_nums {H : Type} {P : Program} {enc : TypeId × Value → H} {w : World} {base fuel : Nat} {sp : Nat → Bool} {held : Bool} {t e : TypeId} {v : Value} {y : DataW H × List MemPlace} (ht : P.underlying t = some (.slice e)) (he : P.underlying e = some (.int .u64)) (hc : P.cellsOf e = 1)
    (h : DataW.trod enc P w base sp held fuel t [v] = some y) : ∃ so n cp xs, v = .slice so n cp ∧ (0 < n → Nums .u64 w (.slice so n cp) xs) := by
  rcases open_ints ht he hc h with ⟨h1, _⟩ | ⟨a, len, cap, zs, h1, _, h2, h3, h4, _, h6, h7⟩
  · simp at h1
    exact ⟨none, 0, 0, [], h1, fun h => absurd h (by decide)⟩
  · simp at h1
    refine ⟨some a, len, cap, (zs.map Int.toNat).take len, h1, fun hpos => ?_⟩
    have hz : len ≤ zs.length := by rw [h4]; split <;> omega
    have hlen : ((zs.map Int.toNat).take len).length = len := by simp; omega
    have hc0 := h6 0 (by omega)
    obtain ⟨b, o, s⟩ := a
    have hs : s = none := by simpa [Addr.add] using World.cell?_spot hc0
    subst hs
    refine Or.inr ⟨b, o, cap, by rw [hlen], by rw [hlen]; exact h2, fun i hi => ?_⟩
    rw [hlen] at hi
    have h8 := h6 i (by omega)
    have hmem : zs.getD i 0 ∈ zs := by
      rw [List.getD_eq_getElem?_getD, List.getElem?_eq_getElem (by omega)]
      simp
    have hb := bounds_u64 (h7 _ hmem)
    have e1 : (((zs.map Int.toNat).take len).getD i 0 : Nat) = (zs.getD i 0).toNat := by
      simp only [List.getD_eq_getElem?_getD, List.getElem?_take, if_pos hi, List.getElem?_map]
      cases hzi : zs[i]? <;> simp
    rw [e1, Int.toNat_of_nonneg (by omega)]
    cases i with
    | zero => simpa [Addr.add] using h8
    | succ i => simpa [Addr.add] using h8

theorem cells_bits : Try.prog.cellsOf 25 = 2 := by kernel_rfl
theorem cells_uint : Try.prog.cellsOf 22 = 1 := by kernel_rfl

theorem open_bits {H : Type} {enc : TypeId × Value → H} {w : World} {base base2 : Nat} {sp : Nat → Bool} {held : Bool} {r : Reach} {v : Value} {d : DataW H} {p : List MemPlace} (hv : Value.okWide Try.prog w r base2 25 v) (h : DataW.Trod enc Try.prog w base sp held 25 v d p) :
    ∃ (l : Nat) (so : Option Addr) (n cp : Nat) (xs : List Nat), v = .agg #[.int .u64 l, .slice so n cp] ∧ l < 18446744073709551616 ∧ (0 < n → Nums .u64 w (.slice so n cp) xs) := by
  obtain ⟨c0, c1, y0, y1, m, rfl, rfl, rfl, hy0, hy1⟩ := open_agg2 Try.underlying25 (by kernel_rfl) cells_bits hv h
  obtain ⟨a, e0, rfl, wa⟩ := DataW.trod_int Try.underlying22 hy0
  simp at e0
  subst e0
  obtain ⟨so, n, cp, xs, rfl, hx⟩ := open_nums Try.underlying23 Try.underlying22 cells_uint hy1
  have b := bounds_u64 wa
  obtain ⟨l, rfl⟩ : ∃ l : Nat, a = (l : Int) := ⟨a.toNat, by omega⟩
  exact ⟨l, so, n, cp, xs, rfl, by omega, hx⟩
end Go.Proofs.Ytpmnpaannbhoeaa
