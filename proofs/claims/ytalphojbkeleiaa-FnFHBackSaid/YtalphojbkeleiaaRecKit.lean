/- A slice of structs of some cells each in memory, read as a list of records. -/
import Derived.Test.YtalphojbkeleiaaStepKit
import Derived.Deep.SlicePairs
import Derived.Lib.SmallJoins
import Derived.ChangeSlices
namespace Go.Proofs.Ytalphojbkeleiaa
open Go.RowKit

def Recs (w : World) (k : Nat) (sl : Value) (rs : List (List Value)) : Prop :=
  (sl = .slice none 0 0 ∧ rs = []) ∨ ∃ b o c, sl = .slice (some ⟨b, o, none⟩) rs.length c ∧ rs.length ≤ c ∧ ∀ i r, rs[i]? = some r → ∀ j v, r[j]? = some v → w.cell? ⟨b, o + i * k + j, none⟩ = some v
section
variable {w w' : World} {k : Nat} {sl : Value} {rs : List (List Value)}
theorem Recs.nil (w : World) (k : Nat) : Recs w k (.slice none 0 0) [] := Or.inl ⟨rfl, rfl⟩
theorem Recs.shape (h : Recs w k sl rs) : ∃ so cp, sl = .slice so rs.length cp := by
  rcases h with ⟨h1, h2⟩ | ⟨b, o, c, h1, _⟩
  · exact ⟨none, 0, by rw [h1, h2]; rfl⟩
  · exact ⟨_, _, h1⟩
theorem Recs.heap (h : Recs w k sl rs) (hb : ∀ b o c, sl = .slice (some ⟨b, o, none⟩) rs.length c → rs ≠ [] → b < w.heap.size → w'.heap[b]? = w.heap[b]?) : Recs w' k sl rs := by
  rcases h with h | ⟨b, o, c, h1, h2, h3⟩
  · exact Or.inl h
  · refine Or.inr ⟨b, o, c, h1, h2, fun i r hi j v hj => ?_⟩
    have h4 := h3 i r hi j v hj
    refine (World.cell?_of_block (hb b o c h1 (fun e => ?_) (cell_lt' h4))).trans h4
    rw [e] at hi; simp at hi
theorem Recs.same (h : Recs w k sl rs) (hb : Below w.heap.size w w') : Recs w' k sl rs := h.heap fun b _ _ _ _ hlt => hb.block b hlt
theorem flatten_get {k : Nat} : ∀ {rs : List (List Value)}, (∀ r ∈ rs, r.length = k) → ∀ {i : Nat} {r : List Value}, rs[i]? = some r → ∀ {j : Nat} {v : Value}, r[j]? = some v → rs.flatten[i * k + j]? = some v
  | [], _, i, r, hi, _, _, _ => by simp at hi
  | x :: rs, hl, i, r, hi, j, v, hj => by
    have hx := hl x (by simp)
    rw [List.flatten_cons]
    cases i with
    | zero =>
      simp at hi
      subst hi
      have hjl := (List.getElem?_eq_some_iff.1 hj).1
      rw [Nat.zero_mul, Nat.zero_add, List.getElem?_append_left hjl]
      exact hj
    | succ i =>
      have hi' : rs[i]? = some r := by simpa using hi
      rw [List.getElem?_append_right (by rw [hx, Nat.succ_mul]; omega), show (i + 1) * k + j - x.length = i * k + j by rw [hx, Nat.succ_mul]; omega]
      exact flatten_get (fun r hr => hl r (by simp [hr])) hi' hj
theorem flatten_len {k : Nat} : ∀ {rs : List (List Value)}, (∀ r ∈ rs, r.length = k) → rs.flatten.length = rs.length * k
  | [], _ => by simp
  | x :: rs, hl => by
    rw [List.flatten_cons, List.length_append, hl x (by simp), flatten_len (fun r hr => hl r (by simp [hr])), List.length_cons, Nat.succ_mul]; omega
theorem Recs.of_own {base : Nat} {e : TypeId} {v : Value} {n : Nat} (hk : 0 < k) (hl : ∀ r ∈ rs, r.length = k) (h : w.ownsRow base e k v n rs.flatten) : Recs w k v rs := by
  obtain ⟨h1, h2⟩ := h
  have hf := flatten_len hl
  have hn : rs.length = n := Nat.eq_of_mul_eq_mul_right hk (by omega)
  rcases h2 with ⟨h2, h3⟩ | ⟨g, cap, cur, hv, hg, hh, hn2, hm, hs, ht⟩
  · refine Or.inl ⟨h2, List.length_eq_zero_iff.1 ?_⟩
    rw [hn]; exact h3
  · refine Or.inr ⟨g, 0, cap, by rw [hn]; exact hv, by omega, fun i r hi j u hj => ?_⟩
    have h3 := flatten_get hl hi hj
    rw [← ht, List.getElem?_take] at h3
    split at h3
    · rw [Array.getElem?_toList] at h3
      have hb : Blk w g cur e := hh
      rw [Nat.zero_add]
      exact hb.cell h3
    · cases h3
theorem Recs.at (h : Recs w k sl rs) {i : Nat} {r : List Value} (hi : rs[i]? = some r) : ∃ b o c, sl = .slice (some ⟨b, o, none⟩) rs.length c ∧ ∀ j v, r[j]? = some v → w.cell? ⟨b, o + i * k + j, none⟩ = some v := by
  rcases h with ⟨_, h2⟩ | ⟨b, o, c, h1, h2, h3⟩
  · rw [h2] at hi; simp at hi
  · exact ⟨b, o, c, h1, h3 i r hi⟩
theorem Recs.pair {so : Option Addr} {n cp i : Nat} {u v : Value} (h : Recs w 2 (.slice so n cp) rs) (hi : rs[i]? = some [u, v]) : ∃ b o, so = some ⟨b, o, none⟩ ∧ w.cell? ⟨b, o + i * 2, none⟩ = some u ∧ w.cell? ⟨b, o + i * 2 + 1, none⟩ = some v := by
  obtain ⟨b, o, c, h1, h2⟩ := h.at hi
  simp only [Value.slice.injEq] at h1
  exact ⟨b, o, h1.1, h2 0 u rfl, h2 1 v rfl⟩
theorem Recs.len {so : Option Addr} {n cp : Nat} (h : Recs w k (.slice so n cp) rs) : rs.length = n := by
  obtain ⟨_, _, h1⟩ := h.shape
  simp only [Value.slice.injEq] at h1
  exact h1.2.1.symm
end

/-- A slice of structs of two ints. -/
def rec2 (p : Int × Int) : List Value := [.int .i64 p.1, .int .i64 p.2]
abbrev Pairs (w : World) (sl : Value) (ps : List (Int × Int)) : Prop := Recs w 2 sl (ps.map rec2)
theorem Pairs.at {w : World} {so : Option Addr} {n cp i : Nat} {ps : List (Int × Int)} {p : Int × Int} (h : Pairs w (.slice so n cp) ps) (hi : ps[i]? = some p) : ∃ b o, so = some ⟨b, o, none⟩ ∧ w.cell? ⟨b, o + i * 2, none⟩ = some (.int .i64 p.1) ∧ w.cell? ⟨b, o + i * 2 + 1, none⟩ = some (.int .i64 p.2) :=
  Recs.pair h (by rw [List.getElem?_map, hi]; rfl)
theorem Pairs.of_own {w : World} {base : Nat} {e : TypeId} {v : Value} {n : Nat} {ps : List (Int × Int)} (h : w.ownsRow base e 2 v n (ps.map rec2).flatten) : Pairs w v ps :=
  Recs.of_own (by decide) (by intro r hr; obtain ⟨p, _, rfl⟩ := List.mem_map.1 hr; rfl) h
theorem Pairs.blk {w : World} {b : Nat} {ps : List (Int × Int)} {T : TypeId} (h : Blk w b (ps.map rec2).flatten.toArray T) : Pairs w (.slice (some ⟨b, 0, none⟩) ps.length ps.length) ps := by
  refine Or.inr ⟨b, 0, ps.length, by simp, by simp, fun i r hi j v hj => ?_⟩
  rw [Nat.zero_add]
  refine h.cell ?_
  rw [List.getElem?_toArray]
  exact flatten_get (by intro r hr; obtain ⟨p, _, rfl⟩ := List.mem_map.1 hr; rfl) hi hj

section
open Go.ChangeShapes Go.WideShapes Go.ChangeAt Go.Joins
theorem addr_add (b o n : Nat) : (⟨b, o, none⟩ : Addr).add n = ⟨b, o + n, none⟩ := by cases n <;> simp [Addr.add]
/-- A law's argument that is a slice of structs of two numbers. -/
theorem open_pairs {H : Type} {P : Program} {enc : TypeId × Value → H} {w : World} {base fuel : Nat} {sp : Nat → Bool} {held : Bool} {t e f : TypeId} {f0 f1 : Field} {v : Value} {y : DataW H × List MemPlace} (ht : P.underlying t = some (.slice e)) (he : P.underlying e = some (.struct #[f0, f1])) (ce : P.cellsOf e = 2)
    (o0 : f0.offset = 0) (o1 : f1.offset = 1) (t0 : f0.type = f) (t1 : f1.type = f) (hf : P.underlying f = some (.int .i64)) (cf : P.cellsOf f = 1) (h : DataW.trod enc P w base sp held fuel t [v] = some y) :
    ∃ (so : Option Addr) (n cp : Nat) (ps : List (Int × Int)), v = .slice so n cp ∧ ps.length = n ∧ (0 < n → Pairs w (.slice so n cp) ps) ∧ ∀ p ∈ ps, (Lit.int .i64 p.1).wf = true ∧ (Lit.int .i64 p.2).wf = true := by
  rcases Deep.open_slice_pairs ht he ce o0 o1 (by rw [t0]; exact cf) (by rw [t1]; exact cf) h with ⟨h1, _⟩ | ⟨a, len, cap, m, fl, V0, V1, D0, D1, P0, P1, h1, _, hl, _, hm, _, hi⟩
  · simp at h1
    exact ⟨none, 0, 0, [], h1, rfl, fun h => absurd h (by decide), by simp⟩
  · simp at h1
    have hlm : len ≤ m := by rw [hm]; split <;> omega
    have key : ∀ i, i < len → ∃ q : Int × Int, w.cell? (a.add (i * 2)) = some (.int .i64 q.1) ∧ w.cell? (a.add (i * 2 + 1)) = some (.int .i64 q.2) ∧ (Lit.int .i64 q.1).wf = true ∧ (Lit.int .i64 q.2).wf = true := fun i hil => by
      obtain ⟨c0, c1, r0, r1⟩ := hi i (by omega)
      rw [t0] at r0
      rw [t1] at r1
      obtain ⟨x, e0, _, w0⟩ := DataW.trod_int hf r0
      obtain ⟨z, e1, _, w1⟩ := DataW.trod_int hf r1
      simp at e0 e1
      exact ⟨(x, z), by rw [c0, e0], by rw [c1, e1], w0, w1⟩
    obtain ⟨F, hF⟩ := Deep.choose_lt key
    have hget : ∀ i, i < len → ((List.range len).map F)[i]? = some (F i) := fun i hil => by simp [hil]
    refine ⟨some a, len, cap, (List.range len).map F, h1, by simp, fun hpos => ?_, fun p hp => ?_⟩
    · obtain ⟨b, o, s⟩ := a
      have hc0 := (hF 0 hpos).1
      have hs : s = none := by simpa [Addr.add] using World.cell?_spot hc0
      subst hs
      refine Or.inr ⟨b, o, cap, by simp, by simpa using hl, fun i r hir j u hj => ?_⟩
      have hil : i < len := by have := (List.getElem?_eq_some_iff.1 hir).1; simpa using this
      rw [List.getElem?_map, hget i hil] at hir
      simp [rec2] at hir
      subst hir
      have hz := hF i hil
      match j, hj with
      | 0, hj => simp at hj; subst hj; have := hz.1; rw [addr_add] at this; simpa using this
      | 1, hj => simp at hj; subst hj; have := hz.2.1; rw [addr_add] at this; simpa [Nat.add_assoc] using this
    · simp at hp
      obtain ⟨i, hil, rfl⟩ := hp
      exact ⟨(hF i hil).2.2.1, (hF i hil).2.2.2⟩
end
end Go.Proofs.Ytalphojbkeleiaa
