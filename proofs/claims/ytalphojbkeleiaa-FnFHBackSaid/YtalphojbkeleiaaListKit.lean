/- A slice of one-cell values in memory, read as a list. -/
import Derived.Test.YtalphojbkeleiaaHeapKit
import Derived.Maps.AppendAt
namespace Go.Proofs.Ytalphojbkeleiaa
open Go.RowKit

/-- A slice that reads as these values. -/
def Vals (w : World) (sl : Value) (vs : List Value) : Prop :=
  (sl = .slice none 0 0 ∧ vs = []) ∨ ∃ b o c, sl = .slice (some ⟨b, o, none⟩) vs.length c ∧ vs.length ≤ c ∧ ∀ i, i < vs.length → w.cell? ⟨b, o + i, none⟩ = vs[i]?
theorem cell_lt' {w : World} {a : Addr} {v : Value} (h : w.cell? a = some v) : a.block < w.heap.size := by
  rcases Nat.lt_or_ge a.block w.heap.size with h' | h'
  · exact h'
  · simp [World.cell?, Array.getElem?_eq_none h'] at h
theorem Vals.same {w w' : World} {sl : Value} {vs : List Value} (h : Vals w sl vs) (hb : Below w.heap.size w w') : Vals w' sl vs := by
  rcases h with h | ⟨b, o, c, h1, h2, h3⟩
  · exact Or.inl h
  · refine Or.inr ⟨b, o, c, h1, h2, fun i hi => ?_⟩
    have h4 : w.cell? ⟨b, o + i, none⟩ = some vs[i] := by rw [h3 i hi, List.getElem?_eq_getElem hi]
    rw [← h3 i hi]
    exact hb.cell (cell_lt' h4)
theorem Vals.heap {w w' : World} {sl : Value} {vs : List Value} (h : Vals w sl vs) (hb : ∀ b o c, sl = .slice (some ⟨b, o, none⟩) vs.length c → vs ≠ [] → b < w.heap.size → w'.heap[b]? = w.heap[b]?) : Vals w' sl vs := by
  rcases h with h | ⟨b, o, c, h1, h2, h3⟩
  · exact Or.inl h
  · refine Or.inr ⟨b, o, c, h1, h2, fun i hi => ?_⟩
    have h4 : w.cell? ⟨b, o + i, none⟩ = some vs[i] := by rw [h3 i hi, List.getElem?_eq_getElem hi]
    rw [← h3 i hi]
    exact World.cell?_of_block (hb b o c h1 (fun e => by rw [e] at hi; simp at hi) (cell_lt' h4))
theorem Vals.of_own {w : World} {base : Nat} {e : TypeId} {v : Value} {n : Nat} {vs : List Value} (h : w.ownsRow base e 1 v n vs) : Vals w v vs := by
  obtain ⟨h1, h2⟩ := h
  have hn : vs.length = n := by omega
  rcases h2 with ⟨h2, h3⟩ | ⟨g, cap, cur, hv, hg, hh, hn2, hm, hs, ht⟩
  · exact Or.inl ⟨h2, List.length_eq_zero_iff.1 (by omega)⟩
  · refine Or.inr ⟨g, 0, cap, by rw [hn]; exact hv, by omega, fun i hi => ?_⟩
    have h3 : (cur.toList.take (n * 1))[i]? = vs[i]? := by rw [ht]
    rw [List.getElem?_take, if_pos (by omega), Array.getElem?_toList] at h3
    have hb : Blk w g cur e := hh
    have hx : cur[i]? = some vs[i] := by rw [h3, List.getElem?_eq_getElem hi]
    rw [Nat.zero_add, List.getElem?_eq_getElem hi]
    exact hb.cell hx
theorem own_low {w : World} {base : Nat} {e : TypeId} {size : Nat} {v : Value} {n : Nat} {xs : List Value} (h : w.ownsRow base e size v n xs) : ∀ a n' c, v = .slice (some a) n' c → base ≤ a.block := by
  obtain ⟨_, h | ⟨g, cap, cur, hv, hge, _⟩⟩ := h
  · intro a n' c e; rw [h.1] at e; simp at e
  · intro a n' c e; rw [hv] at e; simp at e; rw [← e.1]; exact hge
theorem Vals.shape {w : World} {sl : Value} {vs : List Value} (h : Vals w sl vs) : ∃ so cp, sl = .slice so vs.length cp := by
  rcases h with ⟨h1, h2⟩ | ⟨b, o, c, h1, _⟩
  · exact ⟨none, 0, by rw [h1, h2]; rfl⟩
  · exact ⟨_, _, h1⟩
theorem info_at {P : Program} {t : TypeId} {z : Value} {s b : Nat} (h : (P.info? t).map (fun i => (i.zero, i.size, i.bytes)) = some (some z, s, b)) : ∃ i, P.info? t = some i ∧ i.zero = some z ∧ i.size = s ∧ i.bytes = b := by
  cases hi : P.info? t with
  | none => rw [hi] at h; simp at h
  | some i => rw [hi] at h; simp at h; exact ⟨i, rfl, h.1, h.2.1, h.2.2⟩
/-- The value in a slice's one cell, made for an append. -/
theorem one_cell {W : World} {x : Value} {t : TypeId} : ∀ j u, [x][j]? = some u → (W.alloc (.cells #[x] t)).cell? ((⟨W.heap.size, 0, none⟩ : Addr).add j) = some u := by
  intro j u hj
  match j, hj with
  | 0, hj => simp at hj; subst hj; simp [Addr.add]
end Go.Proofs.Ytalphojbkeleiaa
