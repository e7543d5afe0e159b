/- Arguments of the laws: words, data. -/
import Derived.Test.YtbkodehcjhpcmaaL15
import Derived.Test.YtbkodehcjhpcmaaL16
namespace Go.Proofs.Ytbkodehcjhpcmaa
open Go.ChangeShapes Go.WideShapes Go.ChangeAt Go.RowKit Go.Joins

theorem fil_shape {w : World} {a b sl : Value} {m k n : Nat} {f : Nat → Nat} (h : Fil w (.agg #[a, b, sl]) m k n f) : ∃ x y z, sl = .slice (some ⟨x, y, none⟩) n z := by
  obtain ⟨sl', h1, ⟨x, y, z, h2, _⟩, _⟩ := h
  simp at h1
  exact ⟨x, y, z, h1.2.2.trans h2⟩
/-- Words that came in. -/
def Raww (w : World) (so : Option Addr) (n cp : Nat) (f : Nat → Nat) : Prop := n ≤ cp ∧ (∀ i, f i < 18446744073709551616) ∧ (0 < n → ∃ b o, so = some ⟨b, o, none⟩ ∧ ∀ i, i < n → w.cell? ⟨b, o + i, none⟩ = some (.int .u64 (f i : Nat)))
def numOf : Option Value → Nat
  | some (.int _ z) => z.toNat % 18446744073709551616
  | _ => 0
theorem open_raww {H : Type} {enc : TypeId × Value → H} {w : World} {fuel : Nat} {held : Bool} {v : Value} {y : DataW H × List MemPlace}
    (h : DataW.trod enc Try.prog w 0 (fun _ => true) held fuel 22 [v] = some y) : ∃ so n cp f, v = .slice so n cp ∧ Raww w so n cp f := by
  obtain ⟨so, n, cp, hor⟩ := open_row Try.underlying22 Try.underlying25 cells_u64 h
  rcases hor with ⟨rfl, hnc, ⟨rfl, rfl, rfl⟩ | ⟨b, o, rfl, hc⟩⟩ | ⟨a, n', cp', rfl, rfl, hnc⟩
  · exact ⟨none, 0, 0, fun _ => 0, rfl, Nat.le_refl _, fun _ => by simp, fun h => absurd h (by decide)⟩
  · refine ⟨_, n, cp, fun i => numOf (w.cell? ⟨b, o + i, none⟩), rfl, hnc, fun i => ?_, fun _ => ⟨b, o, rfl, fun i hi => ?_⟩⟩
    · show numOf _ < _
      unfold numOf
      split
      · exact Nat.mod_lt _ (by decide)
      · decide
    · obtain ⟨z, h1, h2⟩ := hc i hi
      have hb := bounds_u64 h2
      show _ = some (Value.int .u64 ((numOf (w.cell? ⟨b, o + i, none⟩) : Nat) : Int))
      rw [h1]
      show some (Value.int .u64 z) = some (Value.int .u64 ((z.toNat % 18446744073709551616 : Nat) : Int))
      rw [Nat.mod_eq_of_lt (by omega), Int.toNat_of_nonneg (by omega)]
  · exact ⟨some a, 0, cp', fun _ => 0, rfl, Nat.zero_le _, fun _ => by simp, fun h => absurd h (by decide)⟩
def byteOf : Option Value → UInt8
  | some (.int _ z) => UInt8.ofNat z.toNat
  | _ => 0
theorem open_data {H : Type} {enc : TypeId × Value → H} {w : World} {fuel : Nat} {held : Bool} {v : Value} {y : DataW H × List MemPlace}
    (h : DataW.trod enc Try.prog w 0 (fun _ => true) held fuel 23 [v] = some y) : ∃ so n cp s, v = .slice so n cp ∧ Data w so n cp s := by
  rcases open_ints Try.underlying23 Try.underlying5 cells_u8 h with ⟨h1, _⟩ | ⟨a, len, cap, zs, h1, _, h2, h3, h4, _, h6, h7⟩
  · simp at h1
    exact ⟨none, 0, 0, fun _ => 0, h1, Or.inl ⟨rfl, rfl⟩⟩
  · simp at h1 h4
    by_cases hpos : 0 < cap
    · have hc0 := h6 0 (by omega)
      obtain ⟨b, o, sp⟩ := a
      have hs : sp = none := by simpa [Addr.add] using World.cell?_spot hc0
      subst hs
      refine ⟨_, len, cap, fun i => byteOf (w.cell? ⟨b, o + i, none⟩), h1, Or.inr ⟨b, o, rfl, h2, fun i hi => ?_⟩⟩
      have h8 : w.cell? ⟨b, o + i, none⟩ = some (.int .u8 (zs.getD i 0)) := by
        have := h6 i (by omega)
        cases i with
        | zero => simpa [Addr.add] using this
        | succ i => simpa [Addr.add] using this
      have hwf : (Lit.int .u8 (zs.getD i 0)).wf = true := h7 _ (by rw [List.getD_eq_getElem?_getD, List.getElem?_eq_getElem (by omega)]; simp)
      have hb := bounds_u8 hwf
      show _ = some (Value.int .u8 (((byteOf (w.cell? ⟨b, o + i, none⟩)).toNat : Nat) : Int))
      rw [h8]
      show some (Value.int .u8 (zs.getD i 0)) = some (Value.int .u8 (((UInt8.ofNat (zs.getD i 0).toNat).toNat : Nat) : Int))
      rw [UInt8.toNat_ofNat', Nat.mod_eq_of_lt (by omega), Int.toNat_of_nonneg (by omega)]
    · exact ⟨some a, len, cap, fun _ => 0, h1, Or.inl ⟨by omega, by omega⟩⟩
end Go.Proofs.Ytbkodehcjhpcmaa
