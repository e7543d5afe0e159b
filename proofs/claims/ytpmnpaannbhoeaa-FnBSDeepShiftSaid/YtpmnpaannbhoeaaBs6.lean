/- The thin package's functions over one bitset. -/
import Derived.Test.YtpmnpaannbhoeaaBs5
namespace Go.Proofs.Ytpmnpaannbhoeaa
open Go.RowKit

theorem Nums.shape {K : IntKind} {w : World} {sl : Value} {xs : List Nat} (h : Nums K w sl xs) : ∃ so cp, sl = .slice so xs.length cp := by
  rcases h with ⟨h1, h2⟩ | ⟨b, o, c, h1, _⟩
  · exact ⟨none, 0, by rw [h1, h2]; rfl⟩
  · exact ⟨_, _, h1⟩
theorem IsBits.shape {w : World} {v : Value} {len : Nat} {S : Nat → Bool} (h : IsBits w v len S) : ∃ so n cp, v = .agg #[.int .u64 len, .slice so n cp] := by
  obtain ⟨sl, h1, h2, _⟩ := h
  obtain ⟨so, cp, h3⟩ := h2.shape
  exact ⟨so, _, cp, by rw [h1, h3]⟩
theorem IsBits.len_le {w : World} {v : Value} {len : Nat} {S : Nat → Bool} (h : IsBits w v len S) : len ≤ 100000 := by
  obtain ⟨_, _, _, h, _⟩ := h; exact h
theorem IsBits.out {w : World} {v : Value} {len : Nat} {S : Nat → Bool} (h : IsBits w v len S) (j : Nat) (hj : len ≤ j) : S j = false := by
  obtain ⟨_, _, _, _, h⟩ := h; exact h j hj
/-- What a thin function ends in: data of a bitset, in new memory. -/
def Gives (w : World) (len : Nat) (S : Nat → Bool) (e : Ending) (w' : World) : Prop := ∃ v, e = .returned v ∧ IsBits w' v len S ∧ Below w.heap.size w w'

theorem gives_end {w w3 : World} {R : Nat} {T : TypeId} {x0 x1 : Value} {len : Nat} {S : Nat → Bool} {so : Option Addr} {n cp : Nat} (hR : w.heap.size ≤ R) {w2 : World} (hR2 : R < w2.heap.size)
    (hb : Blk w3 R #[x0, x1] T) (hv : ∀ W : World, (∀ k, w2.heap.size ≤ k → k < w3.heap.size → W.heap[k]? = w3.heap[k]?) → IsBits W (.agg #[.int .u64 len, .slice so n cp]) len S) (hbl : Below w.heap.size w w3) :
    Blk ((w3.setCell ⟨R, 0, none⟩ (.int .u64 len)).setCell ⟨R, 1, none⟩ (.slice so n cp)) R #[.int .u64 len, .slice so n cp] T ∧
      Gives w len S (.returned (.agg #[.int .u64 len, .slice so n cp])) ((w3.setCell ⟨R, 0, none⟩ (.int .u64 len)).setCell ⟨R, 1, none⟩ (.slice so n cp)) := by
  refine ⟨(hb.set 0 _).set 1 _, _, rfl, hv _ fun k h1 h2 => ?_, (hbl.setCell hR _).setCell hR _⟩
  rw [Below.heap_setCell _ _ _ _ (by show k ≠ R; omega), Below.heap_setCell _ _ _ _ (by show k ≠ R; omega)]

set_option maxHeartbeats 400000 in
theorem iSet {w : World} {v : Value} {len : Nat} {S : Nat → Bool} (h : IsBits w v len S) (i : Nat) (hi : i < 100000) :
    Calls Try.prog 13 #[v, .int .u64 i] w (Gives w (max len (i + 1)) fun j => S j || decide (i = j)) := by
  obtain ⟨L, hL⟩ : ∃ L, L = max len (i + 1) := ⟨_, rfl⟩
  rw [← hL]
  have HL := Lib.hid hL
  clear hL
  have H := Lib.hid h
  obtain ⟨so, n, cp, rfl⟩ := h.shape
  clear h
  go_enter Try.func13, Try.ntmps13
  go_wp2_with fail
  have r0 := Blk.new (w.alloc (Obj.cells #[Value.int IntKind.u64 ↑len, Value.slice so n cp] 25)) #[Value.int IntKind.u64 0, Value.slice none 0 0] 25
  simp at r0
  have R0 := Lib.hid r0
  clear r0
  refine (set64_any (H.out.same (((Below.refl _ _).alloc (Nat.le_refl _) _).alloc (by simp) _))).mono ?_
  rintro e w1 ⟨p, rfl, hB, hb⟩
  simp at hB hb
  have HB : Hid (Bs w1 (w.heap.size + 1 + 1) p len S ∧ Below w.heap.size w w1 ∧ Blk w1 (w.heap.size + 1) #[.int .u64 0, .slice none 0 0] 25) :=
    ⟨hB, (((Below.refl _ _).alloc (Nat.le_refl _) _).alloc (by simp) _).trans (hb.mono (by omega)), R0.out.below hb (by omega)⟩
  have hsz : w.heap.size + 1 + 1 ≤ w1.heap.size := by have := hb.size; simpa using this
  clear hB hb R0
  go_wp2_with fail
  refine (set_any HB.out.1 i hi hsz).mono ?_
  rintro e w2 ⟨rfl, hB, hb⟩
  have HC : Hid (Bs w2 (w.heap.size + 1 + 1) p L (fun j => S j || decide (i = j)) ∧ Below w.heap.size w w2 ∧ Blk w2 (w.heap.size + 1) #[.int .u64 0, .slice none 0 0] 25 ∧ w.heap.size + 1 < w2.heap.size) :=
    ⟨by rw [HL.out]; exact hB, HB.out.2.1.trans (hb.mono (by omega)), HB.out.2.2.below hb (by omega), by have := hb.size; omega⟩
  clear hB hb HB hsz
  go_wp2_with fail
  refine (said64_any HC.out.1).mono ?_
  rintro e w3 ⟨v', rfl, hv, hb⟩
  obtain ⟨so', n', cp', rfl⟩ := (hv w3 (fun _ _ _ => rfl)).shape
  have hk := HC.out.2.2.1.below hb HC.out.2.2.2
  have HE := Lib.hid (gives_end (by omega) HC.out.2.2.2 hk hv (HC.out.2.1.trans (hb.mono HC.out.2.1.size)))
  have e0 : w3.cell? ⟨w.heap.size + 1, 0, none⟩ = some (.int .u64 0) := hk.cell rfl
  have e1 : w3.cell? ⟨w.heap.size + 1, 1, none⟩ = some (.slice none 0 0) := hk.cell rfl
  have f0 := hk.free 0
  have f1 := hk.free 1
  clear hk hv hb
  go_wp2_with fail
  have d0 := HE.out.1.cell (i := 0) rfl
  have d1 := HE.out.1.cell (i := 1) rfl
  refine bodyPost_ret (v := .agg #[.int .u64 L, .slice so' n' cp']) ?_ rfl HE.out.2
  simp at d0 d1
  simp [results, Try.results13, go_sem, d0, d1]
end Go.Proofs.Ytpmnpaannbhoeaa
