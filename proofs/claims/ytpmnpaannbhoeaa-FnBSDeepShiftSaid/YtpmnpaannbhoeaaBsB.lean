/- The thin package's functions over two bitsets. -/
import Derived.Test.YtpmnpaannbhoeaaBsA
import Derived.Deep.RegionHeld3
namespace Go.Proofs.Ytpmnpaannbhoeaa
open Go.RowKit

/-- Two boxed bitsets' data and the place of the answer. -/
def Boxed (w W : World) (la lb : Nat) (so : Option Addr) (n cp : Nat) (so' : Option Addr) (n' cp' : Nat) : Prop :=
  Below w.heap.size w W ∧ W.heap.size = w.heap.size + 3 ∧ Blk W w.heap.size #[Value.int IntKind.u64 ↑la, Value.slice so n cp] 25 ∧ Blk W (w.heap.size + 1) #[Value.int IntKind.u64 ↑lb, Value.slice so' n' cp'] 25 ∧
      Blk W (w.heap.size + 1 + 1) #[Value.int IntKind.u64 0, Value.slice none 0 0] 25
theorem boxed_new (w : World) (la lb : Nat) (so : Option Addr) (n cp : Nat) (so' : Option Addr) (n' cp' : Nat) :
    Boxed w (((w.alloc (Obj.cells #[Value.int IntKind.u64 ↑la, Value.slice so n cp] 25)).alloc (Obj.cells #[Value.int IntKind.u64 ↑lb, Value.slice so' n' cp'] 25)).alloc (Obj.cells #[Value.int IntKind.u64 0, Value.slice none 0 0] 25))
      la lb so n cp so' n' cp' := by
  refine ⟨(((Below.refl _ _).alloc (Nat.le_refl _) _).alloc (by simp) _).alloc (by simp; omega) _, by simp, ((Blk.new _ _ _).alloc _).alloc _, ?_, ?_⟩
  · have := Blk.new (w.alloc (Obj.cells #[Value.int IntKind.u64 ↑la, Value.slice so n cp] 25)) #[Value.int IntKind.u64 ↑lb, Value.slice so' n' cp'] 25
    simp at this
    exact this.alloc _
  · have := Blk.new ((w.alloc (Obj.cells #[Value.int IntKind.u64 ↑la, Value.slice so n cp] 25)).alloc (Obj.cells #[Value.int IntKind.u64 ↑lb, Value.slice so' n' cp'] 25)) #[Value.int IntKind.u64 0, Value.slice none 0 0] 25
    simp at this
    exact this
/-- The four cells of the boxes. -/
theorem Boxed.cells {w W W' : World} {la lb : Nat} {so : Option Addr} {n cp : Nat} {so' : Option Addr} {n' cp' : Nat} (h : Boxed w W la lb so n cp so' n' cp') (hb : Below W.heap.size W W') :
    W'.cell? ⟨w.heap.size, 0, none⟩ = some (.int .u64 la) ∧ W'.cell? ⟨w.heap.size, 1, none⟩ = some (.slice so n cp) ∧ W'.cell? ⟨w.heap.size + 1, 0, none⟩ = some (.int .u64 lb) ∧ W'.cell? ⟨w.heap.size + 1, 1, none⟩ = some (.slice so' n' cp') := by
  obtain ⟨h1, h2, h3, h4, h5⟩ := h
  exact ⟨(h3.below hb (by omega)).cell rfl, (h3.below hb (by omega)).cell rfl, (h4.below hb (by omega)).cell rfl, (h4.below hb (by omega)).cell rfl⟩
theorem Boxed.cells2 {w W W' : World} {la lb : Nat} {so : Option Addr} {n cp : Nat} {so' : Option Addr} {n' cp' : Nat} (h : Boxed w W la lb so n cp so' n' cp') (hb : Below W.heap.size W W') (x y : Value) :
    ((W'.setCell ⟨w.heap.size + 1 + 1, 0, none⟩ x).setCell ⟨w.heap.size + 1 + 1, 1, none⟩ y).cell? ⟨w.heap.size, 0, none⟩ = some (.int .u64 la) ∧ ((W'.setCell ⟨w.heap.size + 1 + 1, 0, none⟩ x).setCell ⟨w.heap.size + 1 + 1, 1, none⟩ y).cell? ⟨w.heap.size, 1, none⟩ = some (.slice so n cp) ∧
      ((W'.setCell ⟨w.heap.size + 1 + 1, 0, none⟩ x).setCell ⟨w.heap.size + 1 + 1, 1, none⟩ y).cell? ⟨w.heap.size + 1, 0, none⟩ = some (.int .u64 lb) ∧ ((W'.setCell ⟨w.heap.size + 1 + 1, 0, none⟩ x).setCell ⟨w.heap.size + 1 + 1, 1, none⟩ y).cell? ⟨w.heap.size + 1, 1, none⟩ = some (.slice so' n' cp') := by
  obtain ⟨h1, h2, h3, h4, h5⟩ := h
  have b3 := (((h3.below hb (by omega)).other (a := ⟨w.heap.size + 1 + 1, 0, none⟩) (by simp; omega) x).other (a := ⟨w.heap.size + 1 + 1, 1, none⟩) (by simp; omega) y)
  have b4 := (((h4.below hb (by omega)).other (a := ⟨w.heap.size + 1 + 1, 0, none⟩) (by simp) x).other (a := ⟨w.heap.size + 1 + 1, 1, none⟩) (by simp) y)
  exact ⟨b3.cell rfl, b3.cell rfl, b4.cell rfl, b4.cell rfl⟩

set_option maxRecDepth 100000 in
set_option maxHeartbeats 1000000 in
theorem iInter {w : World} {v v' : Value} {la lb : Nat} {S S' : Nat → Bool} (ha : IsBits w v la S) (hb : IsBits w v' lb S') :
    Calls Try.prog 19 #[v, v'] w (Gives w (min la lb) fun j => S j && S' j) := by
  obtain ⟨L, hL⟩ : ∃ L, L = min la lb := ⟨_, rfl⟩
  rw [← hL]
  have HL := Lib.hid hL
  clear hL
  have HA := Lib.hid ha
  have HB := Lib.hid hb
  obtain ⟨so, n, cp, rfl⟩ := ha.shape
  obtain ⟨so', n', cp', rfl⟩ := hb.shape
  clear ha hb
  go_enter Try.func19, Try.ntmps19
  go_wp2_with fail
  have HW := Lib.hid (boxed_new w la lb so n cp so' n' cp')
  generalize (((w.alloc (Obj.cells #[Value.int IntKind.u64 ↑la, Value.slice so n cp] 25)).alloc (Obj.cells #[Value.int IntKind.u64 ↑lb, Value.slice so' n' cp'] 25)).alloc (Obj.cells #[Value.int IntKind.u64 0, Value.slice none 0 0] 25)) = W at *
  obtain ⟨a0, a1, b0, b1⟩ := HW.out.cells (Below.refl _ _)
  have hR : w.heap.size + 1 + 1 < W.heap.size := by rw [HW.out.2.1]; omega
  go_region_held3 (fun w' => w'.cell? ⟨w.heap.size, 0, none⟩ = some (.int .u64 la) ∧ w'.cell? ⟨w.heap.size, 1, none⟩ = some (.slice so n cp) ∧ w'.cell? ⟨w.heap.size + 1, 0, none⟩ = some (.int .u64 lb) ∧ w'.cell? ⟨w.heap.size + 1, 1, none⟩ = some (.slice so' n' cp'))
    (first | exact ⟨a0, a1, b0, b1⟩ | exact HW.out.cells2 G4.out.1 _ _ | exact HW.out.cells G4.out.1 | exact HW.out.cells G3.out.2 | exact HW.out.cells G2.out.2.2 | exact HW.out.cells G1.out.2)
    (first
      | (go_at_call_of 45 (Value.agg #[Value.int IntKind.u64 la, Value.slice so n cp]); refine (set64_any (HA.out.same HW.out.1.drew)).mono ?_; rintro e w1 ⟨p1, rfl, hB1, hb1⟩; have G1 : Hid (Bs w1 0 p1 la S ∧ Below W.heap.size W w1) := ⟨hB1.mono (Nat.zero_le _), (Below.refl W.heap.size W).drew.trans hb1⟩; clear hB1 hb1)
      | (go_at_call_of 45 (Value.agg #[Value.int IntKind.u64 lb, Value.slice so' n' cp']); refine (set64_any (HB.out.same (HW.out.1.trans (G1.out.2.mono HW.out.1.size)))).mono ?_; rintro e w2 ⟨p2, rfl, hB2, hb2⟩; have G2 : Hid (Bs w2 0 p1 la S ∧ Bs w2 0 p2 lb S' ∧ Below W.heap.size W w2) := ⟨G1.out.1.same hb2, hB2.mono (Nat.zero_le _), G1.out.2.trans (hb2.mono G1.out.2.size)⟩; clear hB2 hb2)
      | (go_at_call 53; refine (inter_any G2.out.1 G2.out.2.1).mono ?_; rintro e w3 ⟨r, rfl, hB3, hb3⟩; have G3 : Hid (Bs w3 0 r L (fun j => S j && S' j) ∧ Below W.heap.size W w3) := ⟨by rw [HL.out]; exact hB3.mono (Nat.zero_le _), G2.out.2.2.trans (hb3.mono G2.out.2.2.size)⟩; clear hB3 hb3)
      | (go_at_call 47; refine (said64_any G3.out.1).mono ?_; rintro e w4 ⟨v4, rfl, hv, hb4⟩; obtain ⟨so4, n4, cp4, rfl⟩ := (hv w4 (fun _ _ _ => rfl)).shape; have G4 : Hid (Below W.heap.size W w4 ∧ Blk w4 (w.heap.size + 1 + 1) #[Value.int IntKind.u64 0, Value.slice none 0 0] 25 ∧ ∀ W' : World, (∀ k, w3.heap.size ≤ k → k < w4.heap.size → W'.heap[k]? = w4.heap[k]?) → IsBits W' (.agg #[.int .u64 L, .slice so4 n4 cp4]) L (fun j => S j && S' j)) := ⟨G3.out.2.trans (hb4.mono G3.out.2.size), (HW.out.2.2.2.2.below G3.out.2 hR).below hb4 (Nat.lt_of_lt_of_le hR G3.out.2.size), hv⟩; clear hv hb4; have e0 : w4.cell? ⟨w.heap.size + 1 + 1, 0, none⟩ = some (.int .u64 0) := G4.out.2.1.cell rfl; have e1 : w4.cell? ⟨w.heap.size + 1 + 1, 1, none⟩ = some (.slice none 0 0) := G4.out.2.1.cell rfl; have f0 := G4.out.2.1.free 0; have f1 := G4.out.2.1.free 1))
  have HE := Lib.hid (gives_end (w := w) (by omega) (Nat.lt_of_lt_of_le hR G3.out.2.size) G4.out.2.1 G4.out.2.2 (HW.out.1.trans (G4.out.1.mono HW.out.1.size)))
  go_wp2_with fail
  have d0 := HE.out.1.cell (i := 0) rfl
  have d1 := HE.out.1.cell (i := 1) rfl
  refine bodyPost_ret (v := .agg #[.int .u64 L, .slice so4 n4 cp4]) ?_ rfl HE.out.2
  simp at d0 d1
  simp [results, Try.results19, go_sem, d0, d1]

set_option maxRecDepth 100000 in
set_option maxHeartbeats 1000000 in
theorem iUnion {w : World} {v v' : Value} {la lb : Nat} {S S' : Nat → Bool} (ha : IsBits w v la S) (hb : IsBits w v' lb S') :
    Calls Try.prog 24 #[v, v'] w (Gives w (max la lb) fun j => S j || S' j) := by
  obtain ⟨L, hL⟩ : ∃ L, L = max la lb := ⟨_, rfl⟩
  rw [← hL]
  have HL := Lib.hid hL
  clear hL
  have HA := Lib.hid ha
  have HB := Lib.hid hb
  obtain ⟨so, n, cp, rfl⟩ := ha.shape
  obtain ⟨so', n', cp', rfl⟩ := hb.shape
  clear ha hb
  go_enter Try.func24, Try.ntmps24
  go_wp2_with fail
  have HW := Lib.hid (boxed_new w la lb so n cp so' n' cp')
  generalize (((w.alloc (Obj.cells #[Value.int IntKind.u64 ↑la, Value.slice so n cp] 25)).alloc (Obj.cells #[Value.int IntKind.u64 ↑lb, Value.slice so' n' cp'] 25)).alloc (Obj.cells #[Value.int IntKind.u64 0, Value.slice none 0 0] 25)) = W at *
  obtain ⟨a0, a1, b0, b1⟩ := HW.out.cells (Below.refl _ _)
  have hR : w.heap.size + 1 + 1 < W.heap.size := by rw [HW.out.2.1]; omega
  go_region_held3 (fun w' => w'.cell? ⟨w.heap.size, 0, none⟩ = some (.int .u64 la) ∧ w'.cell? ⟨w.heap.size, 1, none⟩ = some (.slice so n cp) ∧ w'.cell? ⟨w.heap.size + 1, 0, none⟩ = some (.int .u64 lb) ∧ w'.cell? ⟨w.heap.size + 1, 1, none⟩ = some (.slice so' n' cp'))
    (first | exact ⟨a0, a1, b0, b1⟩ | exact HW.out.cells2 G4.out.1 _ _ | exact HW.out.cells G4.out.1 | exact HW.out.cells G3.out.2 | exact HW.out.cells G2.out.2.2 | exact HW.out.cells G1.out.2)
    (first
      | (go_at_call_of 45 (Value.agg #[Value.int IntKind.u64 la, Value.slice so n cp]); refine (set64_any (HA.out.same HW.out.1.drew)).mono ?_; rintro e w1 ⟨p1, rfl, hB1, hb1⟩; have G1 : Hid (Bs w1 0 p1 la S ∧ Below W.heap.size W w1) := ⟨hB1.mono (Nat.zero_le _), (Below.refl W.heap.size W).drew.trans hb1⟩; clear hB1 hb1)
      | (go_at_call_of 45 (Value.agg #[Value.int IntKind.u64 lb, Value.slice so' n' cp']); refine (set64_any (HB.out.same (HW.out.1.trans (G1.out.2.mono HW.out.1.size)))).mono ?_; rintro e w2 ⟨p2, rfl, hB2, hb2⟩; have G2 : Hid (Bs w2 0 p1 la S ∧ Bs w2 0 p2 lb S' ∧ Below W.heap.size W w2) := ⟨G1.out.1.same hb2, hB2.mono (Nat.zero_le _), G1.out.2.trans (hb2.mono G1.out.2.size)⟩; clear hB2 hb2)
      | (go_at_call 59; refine (union_any G2.out.1 G2.out.2.1).mono ?_; rintro e w3 ⟨r, rfl, hB3, hb3⟩; have G3 : Hid (Bs w3 0 r L (fun j => S j || S' j) ∧ Below W.heap.size W w3) := ⟨by rw [HL.out]; exact hB3.mono (Nat.zero_le _), G2.out.2.2.trans (hb3.mono G2.out.2.2.size)⟩; clear hB3 hb3)
      | (go_at_call 47; refine (said64_any G3.out.1).mono ?_; rintro e w4 ⟨v4, rfl, hv, hb4⟩; obtain ⟨so4, n4, cp4, rfl⟩ := (hv w4 (fun _ _ _ => rfl)).shape; have G4 : Hid (Below W.heap.size W w4 ∧ Blk w4 (w.heap.size + 1 + 1) #[Value.int IntKind.u64 0, Value.slice none 0 0] 25 ∧ ∀ W' : World, (∀ k, w3.heap.size ≤ k → k < w4.heap.size → W'.heap[k]? = w4.heap[k]?) → IsBits W' (.agg #[.int .u64 L, .slice so4 n4 cp4]) L (fun j => S j || S' j)) := ⟨G3.out.2.trans (hb4.mono G3.out.2.size), (HW.out.2.2.2.2.below G3.out.2 hR).below hb4 (Nat.lt_of_lt_of_le hR G3.out.2.size), hv⟩; clear hv hb4; have e0 : w4.cell? ⟨w.heap.size + 1 + 1, 0, none⟩ = some (.int .u64 0) := G4.out.2.1.cell rfl; have e1 : w4.cell? ⟨w.heap.size + 1 + 1, 1, none⟩ = some (.slice none 0 0) := G4.out.2.1.cell rfl; have f0 := G4.out.2.1.free 0; have f1 := G4.out.2.1.free 1))
  have HE := Lib.hid (gives_end (w := w) (by omega) (Nat.lt_of_lt_of_le hR G3.out.2.size) G4.out.2.1 G4.out.2.2 (HW.out.1.trans (G4.out.1.mono HW.out.1.size)))
  go_wp2_with fail
  have d0 := HE.out.1.cell (i := 0) rfl
  have d1 := HE.out.1.cell (i := 1) rfl
  refine bodyPost_ret (v := .agg #[.int .u64 L, .slice so4 n4 cp4]) ?_ rfl HE.out.2
  simp at d0 d1
  simp [results, Try.results24, go_sem, d0, d1]

set_option maxRecDepth 100000 in
set_option maxHeartbeats 1000000 in
theorem iSymd {w : World} {v v' : Value} {la lb : Nat} {S S' : Nat → Bool} (ha : IsBits w v la S) (hb : IsBits w v' lb S') :
    Calls Try.prog 33 #[v, v'] w (Gives w (max la lb) fun j => S j != S' j) := by
  obtain ⟨L, hL⟩ : ∃ L, L = max la lb := ⟨_, rfl⟩
  rw [← hL]
  have HL := Lib.hid hL
  clear hL
  have HA := Lib.hid ha
  have HB := Lib.hid hb
  obtain ⟨so, n, cp, rfl⟩ := ha.shape
  obtain ⟨so', n', cp', rfl⟩ := hb.shape
  clear ha hb
  go_enter Try.func33, Try.ntmps33
  go_wp2_with fail
  have HW := Lib.hid (boxed_new w la lb so n cp so' n' cp')
  generalize (((w.alloc (Obj.cells #[Value.int IntKind.u64 ↑la, Value.slice so n cp] 25)).alloc (Obj.cells #[Value.int IntKind.u64 ↑lb, Value.slice so' n' cp'] 25)).alloc (Obj.cells #[Value.int IntKind.u64 0, Value.slice none 0 0] 25)) = W at *
  obtain ⟨a0, a1, b0, b1⟩ := HW.out.cells (Below.refl _ _)
  have hR : w.heap.size + 1 + 1 < W.heap.size := by rw [HW.out.2.1]; omega
  go_region_held3 (fun w' => w'.cell? ⟨w.heap.size, 0, none⟩ = some (.int .u64 la) ∧ w'.cell? ⟨w.heap.size, 1, none⟩ = some (.slice so n cp) ∧ w'.cell? ⟨w.heap.size + 1, 0, none⟩ = some (.int .u64 lb) ∧ w'.cell? ⟨w.heap.size + 1, 1, none⟩ = some (.slice so' n' cp'))
    (first | exact ⟨a0, a1, b0, b1⟩ | exact HW.out.cells2 G4.out.1 _ _ | exact HW.out.cells G4.out.1 | exact HW.out.cells G3.out.2 | exact HW.out.cells G2.out.2.2 | exact HW.out.cells G1.out.2)
    (first
      | (go_at_call_of 45 (Value.agg #[Value.int IntKind.u64 la, Value.slice so n cp]); refine (set64_any (HA.out.same HW.out.1.drew)).mono ?_; rintro e w1 ⟨p1, rfl, hB1, hb1⟩; have G1 : Hid (Bs w1 0 p1 la S ∧ Below W.heap.size W w1) := ⟨hB1.mono (Nat.zero_le _), (Below.refl W.heap.size W).drew.trans hb1⟩; clear hB1 hb1)
      | (go_at_call_of 45 (Value.agg #[Value.int IntKind.u64 lb, Value.slice so' n' cp']); refine (set64_any (HB.out.same (HW.out.1.trans (G1.out.2.mono HW.out.1.size)))).mono ?_; rintro e w2 ⟨p2, rfl, hB2, hb2⟩; have G2 : Hid (Bs w2 0 p1 la S ∧ Bs w2 0 p2 lb S' ∧ Below W.heap.size W w2) := ⟨G1.out.1.same hb2, hB2.mono (Nat.zero_le _), G1.out.2.trans (hb2.mono G1.out.2.size)⟩; clear hB2 hb2)
      | (go_at_call 68; refine (symd_any G2.out.1 G2.out.2.1).mono ?_; rintro e w3 ⟨r, rfl, hB3, hb3⟩; have G3 : Hid (Bs w3 0 r L (fun j => S j != S' j) ∧ Below W.heap.size W w3) := ⟨by rw [HL.out]; exact hB3.mono (Nat.zero_le _), G2.out.2.2.trans (hb3.mono G2.out.2.2.size)⟩; clear hB3 hb3)
      | (go_at_call 47; refine (said64_any G3.out.1).mono ?_; rintro e w4 ⟨v4, rfl, hv, hb4⟩; obtain ⟨so4, n4, cp4, rfl⟩ := (hv w4 (fun _ _ _ => rfl)).shape; have G4 : Hid (Below W.heap.size W w4 ∧ Blk w4 (w.heap.size + 1 + 1) #[Value.int IntKind.u64 0, Value.slice none 0 0] 25 ∧ ∀ W' : World, (∀ k, w3.heap.size ≤ k → k < w4.heap.size → W'.heap[k]? = w4.heap[k]?) → IsBits W' (.agg #[.int .u64 L, .slice so4 n4 cp4]) L (fun j => S j != S' j)) := ⟨G3.out.2.trans (hb4.mono G3.out.2.size), (HW.out.2.2.2.2.below G3.out.2 hR).below hb4 (Nat.lt_of_lt_of_le hR G3.out.2.size), hv⟩; clear hv hb4; have e0 : w4.cell? ⟨w.heap.size + 1 + 1, 0, none⟩ = some (.int .u64 0) := G4.out.2.1.cell rfl; have e1 : w4.cell? ⟨w.heap.size + 1 + 1, 1, none⟩ = some (.slice none 0 0) := G4.out.2.1.cell rfl; have f0 := G4.out.2.1.free 0; have f1 := G4.out.2.1.free 1))
  have HE := Lib.hid (gives_end (w := w) (by omega) (Nat.lt_of_lt_of_le hR G3.out.2.size) G4.out.2.1 G4.out.2.2 (HW.out.1.trans (G4.out.1.mono HW.out.1.size)))
  go_wp2_with fail
  have d0 := HE.out.1.cell (i := 0) rfl
  have d1 := HE.out.1.cell (i := 1) rfl
  refine bodyPost_ret (v := .agg #[.int .u64 L, .slice so4 n4 cp4]) ?_ rfl HE.out.2
  simp at d0 d1
  simp [results, Try.results33, go_sem, d0, d1]
end Go.Proofs.Ytpmnpaannbhoeaa
