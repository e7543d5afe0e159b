/- The thin package's functions over one bitset: changes, questions, a new one. -/
import Derived.Test.YtpmnpaannbhoeaaBsB
namespace Go.Proofs.Ytpmnpaannbhoeaa
open Go.RowKit

theorem tst_any {w : World} {B p len : Nat} {S : Nat → Bool} (h : Bs w B p len S) (i : Nat) (hi : i ≤ 1000000) :
    Calls Try.prog 50 #[.pointer (some ⟨p, 0, none⟩), .int .u64 i] w fun e w' => e = .returned (.bool (S i)) ∧ ∃ k, w' = w.drewN k := by
  obtain ⟨b, n, c, f, h1, h2, h3, h4, h5, hS⟩ := h
  have := test_any h1 i (by omega) hi
  rwa [← hS] at this
theorem length_any {w : World} {B p len : Nat} {S : Nat → Bool} (h : Bs w B p len S) :
    Calls Try.prog 51 #[.pointer (some ⟨p, 0, none⟩)] w fun e w' => e = .returned (.int .u64 len) ∧ w = w' := by
  obtain ⟨b, n, c, f, h1, h2, h3, h4, h5, hS⟩ := h
  exact len_any h1

set_option maxHeartbeats 400000 in
theorem iShrink {w : World} {v : Value} {len : Nat} {S : Nat → Bool} (h : IsBits w v len S) (i : Nat) (hi : i < len) :
    Calls Try.prog 15 #[v, .int .u64 i] w (Gives w (i + 1) fun j => decide (j < i + 1) && S j) := by
  suffices key : ∀ L, L = i + 1 → Calls Try.prog 15 #[v, .int .u64 i] w (Gives w L fun j => decide (j < i + 1) && S j) from key _ rfl
  intro L hL
  have HL := Lib.hid hL
  clear hL
  have H := Lib.hid h
  obtain ⟨so, n, cp, rfl⟩ := h.shape
  clear h
  go_enter Try.func15, Try.ntmps15
  go_wp2_with fail
  have r0 := Blk.new (w.alloc (Obj.cells #[Value.int IntKind.u64 ↑len, Value.slice so n cp] 25)) #[Value.int IntKind.u64 0, Value.slice none 0 0] 25
  simp at r0
  have R0 := Lib.hid r0
  clear r0
  refine (set64_any (H.out.same (((Below.refl _ _).alloc (Nat.le_refl _) _).alloc (by simp) _))).mono ?_
  rintro e w1 ⟨p, rfl, hB, hb⟩
  simp at hB hb
  have HB : Hid (Bs w1 (w.heap.size + 1 + 1) p len S ∧ Below w.heap.size w w1 ∧ Blk w1 (w.heap.size + 1) #[.int .u64 0, .slice none 0 0] 25) :=
    ⟨hB, (((Below.refl _ _).alloc (Nat.le_refl _) _).alloc (by simp) _).trans (hb.mono (by omega)), R0.out.below hb (by omega)⟩
  have hsz : w.heap.size + 1 + 1 ≤ w1.heap.size := by have := hb.size; simpa using this
  clear hB hb R0
  go_wp2_with fail
  refine (shrink_any HB.out.1 i hi hsz).mono ?_
  rintro e w2 ⟨rfl, hB, hb⟩
  have HC : Hid (Bs w2 (w.heap.size + 1 + 1) p L (fun j => decide (j < i + 1) && S j) ∧ Below w.heap.size w w2 ∧ Blk w2 (w.heap.size + 1) #[.int .u64 0, .slice none 0 0] 25 ∧ w.heap.size + 1 < w2.heap.size) :=
    ⟨by rw [HL.out]; exact hB, HB.out.2.1.trans (hb.mono (by omega)), HB.out.2.2.below hb (by omega), by have := hb.size; omega⟩
  clear hB hb HB hsz
  go_wp2_with fail
  refine (said64_any HC.out.1).mono ?_
  rintro e w3 ⟨v', rfl, hv, hb⟩
  obtain ⟨so', n', cp', rfl⟩ := (hv w3 (fun _ _ _ => rfl)).shape
  have hk := HC.out.2.2.1.below hb HC.out.2.2.2
  have HE := Lib.hid (gives_end (by omega) HC.out.2.2.2 hk hv (HC.out.2.1.trans (hb.mono HC.out.2.1.size)))
  have e0 : w3.cell? ⟨w.heap.size + 1, 0, none⟩ = some (.int .u64 0) := hk.cell rfl
  have e1 : w3.cell? ⟨w.heap.size + 1, 1, none⟩ = some (.slice none 0 0) := hk.cell rfl
  have f0 := hk.free 0
  have f1 := hk.free 1
  clear hk hv hb
  go_wp2_with fail
  have d0 := HE.out.1.cell (i := 0) rfl
  have d1 := HE.out.1.cell (i := 1) rfl
  refine bodyPost_ret (v := .agg #[.int .u64 L, .slice so' n' cp']) ?_ rfl HE.out.2
  simp at d0 d1
  simp [results, Try.results15, go_sem, d0, d1]

set_option maxHeartbeats 400000 in
theorem iClear {w : World} {v : Value} {len : Nat} {S : Nat → Bool} (h : IsBits w v len S) (i : Nat) (hi : i < 100000) :
    Calls Try.prog 35 #[v, .int .u64 i] w (Gives w (len) fun j => S j && !decide (i = j)) := by
  suffices key : ∀ L, L = len → Calls Try.prog 35 #[v, .int .u64 i] w (Gives w L fun j => S j && !decide (i = j)) from key _ rfl
  intro L hL
  have HL := Lib.hid hL
  clear hL
  have H := Lib.hid h
  obtain ⟨so, n, cp, rfl⟩ := h.shape
  clear h
  go_enter Try.func35, Try.ntmps35
  go_wp2_with fail
  have r0 := Blk.new (w.alloc (Obj.cells #[Value.int IntKind.u64 ↑len, Value.slice so n cp] 25)) #[Value.int IntKind.u64 0, Value.slice none 0 0] 25
  simp at r0
  have R0 := Lib.hid r0
  clear r0
  refine (set64_any (H.out.same (((Below.refl _ _).alloc (Nat.le_refl _) _).alloc (by simp) _))).mono ?_
  rintro e w1 ⟨p, rfl, hB, hb⟩
  simp at hB hb
  have HB : Hid (Bs w1 (w.heap.size + 1 + 1) p len S ∧ Below w.heap.size w w1 ∧ Blk w1 (w.heap.size + 1) #[.int .u64 0, .slice none 0 0] 25) :=
    ⟨hB, (((Below.refl _ _).alloc (Nat.le_refl _) _).alloc (by simp) _).trans (hb.mono (by omega)), R0.out.below hb (by omega)⟩
  have hsz : w.heap.size + 1 + 1 ≤ w1.heap.size := by have := hb.size; simpa using this
  clear hB hb R0
  go_wp2_with fail
  refine (clear_any HB.out.1 i hi hsz).mono ?_
  rintro e w2 ⟨rfl, hB, hb⟩
  have HC : Hid (Bs w2 (w.heap.size + 1 + 1) p L (fun j => S j && !decide (i = j)) ∧ Below w.heap.size w w2 ∧ Blk w2 (w.heap.size + 1) #[.int .u64 0, .slice none 0 0] 25 ∧ w.heap.size + 1 < w2.heap.size) :=
    ⟨by rw [HL.out]; exact hB, HB.out.2.1.trans (hb.mono (by omega)), HB.out.2.2.below hb (by omega), by have := hb.size; omega⟩
  clear hB hb HB hsz
  go_wp2_with fail
  refine (said64_any HC.out.1).mono ?_
  rintro e w3 ⟨v', rfl, hv, hb⟩
  obtain ⟨so', n', cp', rfl⟩ := (hv w3 (fun _ _ _ => rfl)).shape
  have hk := HC.out.2.2.1.below hb HC.out.2.2.2
  have HE := Lib.hid (gives_end (by omega) HC.out.2.2.2 hk hv (HC.out.2.1.trans (hb.mono HC.out.2.1.size)))
  have e0 : w3.cell? ⟨w.heap.size + 1, 0, none⟩ = some (.int .u64 0) := hk.cell rfl
  have e1 : w3.cell? ⟨w.heap.size + 1, 1, none⟩ = some (.slice none 0 0) := hk.cell rfl
  have f0 := hk.free 0
  have f1 := hk.free 1
  clear hk hv hb
  go_wp2_with fail
  have d0 := HE.out.1.cell (i := 0) rfl
  have d1 := HE.out.1.cell (i := 1) rfl
  refine bodyPost_ret (v := .agg #[.int .u64 L, .slice so' n' cp']) ?_ rfl HE.out.2
  simp at d0 d1
  simp [results, Try.results35, go_sem, d0, d1]

set_option maxHeartbeats 400000 in
theorem iSetAll {w : World} {v : Value} {len : Nat} {S : Nat → Bool} (h : IsBits w v len S)  :
    Calls Try.prog 20 #[v] w (Gives w (len) fun j => decide (j < len)) := by
  suffices key : ∀ L, L = len → Calls Try.prog 20 #[v] w (Gives w L fun j => decide (j < len)) from key _ rfl
  intro L hL
  have HL := Lib.hid hL
  clear hL
  have H := Lib.hid h
  obtain ⟨so, n, cp, rfl⟩ := h.shape
  clear h
  go_enter Try.func20, Try.ntmps20
  go_wp2_with fail
  have r0 := Blk.new (w.alloc (Obj.cells #[Value.int IntKind.u64 ↑len, Value.slice so n cp] 25)) #[Value.int IntKind.u64 0, Value.slice none 0 0] 25
  simp at r0
  have R0 := Lib.hid r0
  clear r0
  refine (set64_any (H.out.same (((Below.refl _ _).alloc (Nat.le_refl _) _).alloc (by simp) _))).mono ?_
  rintro e w1 ⟨p, rfl, hB, hb⟩
  simp at hB hb
  have HB : Hid (Bs w1 (w.heap.size + 1 + 1) p len S ∧ Below w.heap.size w w1 ∧ Blk w1 (w.heap.size + 1) #[.int .u64 0, .slice none 0 0] 25) :=
    ⟨hB, (((Below.refl _ _).alloc (Nat.le_refl _) _).alloc (by simp) _).trans (hb.mono (by omega)), R0.out.below hb (by omega)⟩
  have hsz : w.heap.size + 1 + 1 ≤ w1.heap.size := by have := hb.size; simpa using this
  clear hB hb R0
  go_wp2_with fail
  refine (setAll_any HB.out.1 hsz).mono ?_
  rintro e w2 ⟨rfl, hB, hb⟩
  have HC : Hid (Bs w2 (w.heap.size + 1 + 1) p L (fun j => decide (j < len)) ∧ Below w.heap.size w w2 ∧ Blk w2 (w.heap.size + 1) #[.int .u64 0, .slice none 0 0] 25 ∧ w.heap.size + 1 < w2.heap.size) :=
    ⟨by rw [HL.out]; exact hB, HB.out.2.1.trans (hb.mono (by omega)), HB.out.2.2.below hb (by omega), by have := hb.size; omega⟩
  clear hB hb HB hsz
  go_wp2_with fail
  refine (said64_any HC.out.1).mono ?_
  rintro e w3 ⟨v', rfl, hv, hb⟩
  obtain ⟨so', n', cp', rfl⟩ := (hv w3 (fun _ _ _ => rfl)).shape
  have hk := HC.out.2.2.1.below hb HC.out.2.2.2
  have HE := Lib.hid (gives_end (by omega) HC.out.2.2.2 hk hv (HC.out.2.1.trans (hb.mono HC.out.2.1.size)))
  have e0 : w3.cell? ⟨w.heap.size + 1, 0, none⟩ = some (.int .u64 0) := hk.cell rfl
  have e1 : w3.cell? ⟨w.heap.size + 1, 1, none⟩ = some (.slice none 0 0) := hk.cell rfl
  have f0 := hk.free 0
  have f1 := hk.free 1
  clear hk hv hb
  go_wp2_with fail
  have d0 := HE.out.1.cell (i := 0) rfl
  have d1 := HE.out.1.cell (i := 1) rfl
  refine bodyPost_ret (v := .agg #[.int .u64 L, .slice so' n' cp']) ?_ rfl HE.out.2
  simp at d0 d1
  simp [results, Try.results20, go_sem, d0, d1]

set_option maxHeartbeats 400000 in
theorem iTest {w : World} {v : Value} {len : Nat} {S : Nat → Bool} (h : IsBits w v len S) (i : Nat) (hi : i < 100000) :
    Calls Try.prog 16 #[v, .int .u64 i] w fun e w' => e = .returned (.bool (S i)) ∧ Below w.heap.size w w' := by
  have H := Lib.hid h
  obtain ⟨so, n, cp, rfl⟩ := h.shape
  clear h
  go_enter Try.func16, Try.ntmps16
  go_wp2_with fail
  refine (set64_any (H.out.same ((Below.refl _ _).alloc (Nat.le_refl _) _))).mono ?_
  rintro e w1 ⟨p, rfl, hB, hb⟩
  simp at hB hb
  have HB : Hid (Bs w1 (w.heap.size + 1) p len S ∧ Below w.heap.size w w1) := ⟨hB, ((Below.refl _ _).alloc (Nat.le_refl _) _).trans (hb.mono (by omega))⟩
  clear hB hb
  go_wp2_with fail
  refine (tst_any HB.out.1 i (by omega)).mono ?_
  rintro e w2 ⟨rfl, d, rfl⟩
  go_wp2_with fail
  go_ret
  exact ⟨rfl, below_drewN HB.out.2 d⟩

set_option maxHeartbeats 400000 in
theorem iLen {w : World} {v : Value} {len : Nat} {S : Nat → Bool} (h : IsBits w v len S)  :
    Calls Try.prog 17 #[v] w fun e w' => e = .returned (.int .u64 len) ∧ Below w.heap.size w w' := by
  have H := Lib.hid h
  obtain ⟨so, n, cp, rfl⟩ := h.shape
  clear h
  go_enter Try.func17, Try.ntmps17
  go_wp2_with fail
  refine (set64_any (H.out.same ((Below.refl _ _).alloc (Nat.le_refl _) _))).mono ?_
  rintro e w1 ⟨p, rfl, hB, hb⟩
  simp at hB hb
  have HB : Hid (Bs w1 (w.heap.size + 1) p len S ∧ Below w.heap.size w w1) := ⟨hB, ((Below.refl _ _).alloc (Nat.le_refl _) _).trans (hb.mono (by omega))⟩
  clear hB hb
  go_wp2_with fail
  refine (length_any HB.out.1).mono ?_
  rintro e w2 ⟨rfl, rfl⟩
  go_wp2_with fail
  go_ret
  exact ⟨rfl, HB.out.2⟩

set_option maxHeartbeats 400000 in
theorem iNew (n : Nat) (w : World) (hn : n ≤ 100000) :
    Calls Try.prog 21 #[.int .u64 n] w (Gives w n fun _ => false) := by
  go_enter Try.func21, Try.ntmps21
  go_wp2_with fail
  have R0 := Lib.hid (Blk.new w #[Value.int IntKind.u64 0, Value.slice none 0 0] 25)
  refine (new_any n _ (by omega)).mono ?_
  rintro e w1 ⟨p, b, rfl, hB, ho, hp, hb⟩
  simp at hp hb
  have hb1 : Below (w.heap.size + 1) (w.alloc (.cells #[Value.int IntKind.u64 0, Value.slice none 0 0] 25)) w1 := by have := ho.nil; simpa using this
  have HC : Hid (Bs w1 (w.heap.size + 1) p n (fun _ => false) ∧ Below w.heap.size w w1 ∧ Blk w1 w.heap.size #[.int .u64 0, .slice none 0 0] 25 ∧ w.heap.size < w1.heap.size) :=
    ⟨⟨b, _, _, _, hB, by omega, by omega, by unfold wn; omega, hn, fun j => by simp [bit]⟩, ((Below.refl _ _).alloc (Nat.le_refl _) _).trans (hb1.mono (by omega)), R0.out.below hb1 (by omega), by have := hB.plt; omega⟩
  clear hB ho hp hb hb1 R0
  go_wp2_with fail
  refine (said64_any HC.out.1).mono ?_
  rintro e w3 ⟨v', rfl, hv, hb⟩
  obtain ⟨so', n', cp', rfl⟩ := (hv w3 (fun _ _ _ => rfl)).shape
  have hk := HC.out.2.2.1.below hb HC.out.2.2.2
  have HE := Lib.hid (gives_end (Nat.le_refl _) HC.out.2.2.2 hk hv (HC.out.2.1.trans (hb.mono HC.out.2.1.size)))
  have e0 : w3.cell? ⟨w.heap.size, 0, none⟩ = some (.int .u64 0) := hk.cell rfl
  have e1 : w3.cell? ⟨w.heap.size, 1, none⟩ = some (.slice none 0 0) := hk.cell rfl
  have f0 := hk.free 0
  have f1 := hk.free 1
  clear hk hv hb
  go_wp2_with fail
  have d0 := HE.out.1.cell (i := 0) rfl
  have d1 := HE.out.1.cell (i := 1) rfl
  refine bodyPost_ret (v := .agg #[.int .u64 n, .slice so' n' cp']) ?_ rfl HE.out.2
  simp at d0 d1
  simp [results, Try.results21, go_sem, d0, d1]
end Go.Proofs.Ytpmnpaannbhoeaa
