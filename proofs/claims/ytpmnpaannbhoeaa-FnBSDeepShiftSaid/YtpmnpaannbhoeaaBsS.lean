/- ShiftLeft and ShiftRight of a set. -/
import Derived.Test.YtpmnpaannbhoeaaBsRn
import Derived.Test.YtpmnpaannbhoeaaBsRu
import Derived.Test.YtpmnpaannbhoeaaBsRk
import Derived.Test.YtpmnpaannbhoeaaBsT
namespace Go.Proofs.Ytpmnpaannbhoeaa
open Go.RowKit Pop

set_option maxRecDepth 100000 in
set_option maxHeartbeats 400000 in
theorem sl_zero {w : World} {p : Nat} : Calls Try.prog 60 #[.pointer (some ⟨p, 0, none⟩), .int .u64 0] w fun e w' => e = .returned (.tuple #[]) ∧ w = w' := by
  go_enter Try.func60, Try.ntmps60
  go_wp2_with fail
  refine (panicIfNull_any _ _).mono ?_; rintro e w' ⟨rfl, rfl⟩
  go_wp2_with fail
  refine bodyPost_ret (results_none rfl _ _ _) rfl ?_
  exact ⟨rfl, rfl⟩
set_option maxRecDepth 100000 in
set_option maxHeartbeats 400000 in
theorem sl_empty {w : World} {p b n c len : Nat} {f : Nat → Nat} (h : BSet w p b n c len f) (d : Nat) (hz : ∀ i, i < n → f i = 0) (hd : 0 < d) (hl : len ≤ 100000) :
    Calls Try.prog 60 #[.pointer (some ⟨p, 0, none⟩), .int .u64 d] w fun e w' => e = .returned (.tuple #[]) ∧ w = w' := by
  have H := Lib.hid h
  have HZ := Lib.hid hz
  have hd0 : ((d : Int) == 0) = false := by simp; omega
  clear h hz
  go_enter Try.func60, Try.ntmps60
  go_wp2_with fail
  refine (panicIfNull_any _ _).mono ?_; rintro e w' ⟨rfl, rfl⟩
  go_wp2_with fail
  refine (top_any H.out (by omega)).mono ?_; rintro e w' ⟨hres, rfl⟩
  have hres2 : e = .returned (.tuple #[.int .u64 0, .bool false]) := by
    rcases hres with ⟨t2, ht2, rfl⟩ | ⟨_, h2⟩
    · exfalso
      have h2 := zero_bits (k := 0) (fun i _ hi => HZ.out i hi) t2 (by omega) ht2.1
      rw [ht2.2.1] at h2; cases h2
    · exact h2
  subst hres2
  clear hres
  go_wp2_with fail
  refine bodyPost_ret (results_none rfl _ _ _) rfl ?_
  exact ⟨rfl, rfl⟩

set_option maxRecDepth 100000 in
set_option maxHeartbeats 400000 in
theorem rs_zero {w : World} {p : Nat} : Calls Try.prog 74 #[.pointer (some ⟨p, 0, none⟩), .int .u64 0] w fun e w' => e = .returned (.tuple #[]) ∧ w = w' := by
  go_enter Try.func74, Try.ntmps74
  go_wp2_with fail
  refine (panicIfNull_any _ _).mono ?_; rintro e w' ⟨rfl, rfl⟩
  go_wp2_with fail
  refine bodyPost_ret (results_none rfl _ _ _) rfl ?_
  exact ⟨rfl, rfl⟩
set_option maxRecDepth 100000 in
set_option maxHeartbeats 400000 in
theorem rs_empty {w : World} {p b n c len : Nat} {f : Nat → Nat} (h : BSet w p b n c len f) (d : Nat) (hz : ∀ i, i < n → f i = 0) (hd : 0 < d) (hl : len ≤ 100000) :
    Calls Try.prog 74 #[.pointer (some ⟨p, 0, none⟩), .int .u64 d] w fun e w' => e = .returned (.tuple #[]) ∧ w = w' := by
  have H := Lib.hid h
  have HZ := Lib.hid hz
  have hd0 : ((d : Int) == 0) = false := by simp; omega
  clear h hz
  go_enter Try.func74, Try.ntmps74
  go_wp2_with fail
  refine (panicIfNull_any _ _).mono ?_; rintro e w' ⟨rfl, rfl⟩
  go_wp2_with fail
  refine (top_any H.out (by omega)).mono ?_; rintro e w' ⟨hres, rfl⟩
  have hres2 : e = .returned (.tuple #[.int .u64 0, .bool false]) := by
    rcases hres with ⟨t2, ht2, rfl⟩ | ⟨_, h2⟩
    · exfalso
      have h2 := zero_bits (k := 0) (fun i _ hi => HZ.out i hi) t2 (by omega) ht2.1
      rw [ht2.2.1] at h2; cases h2
    · exact h2
  subst hres2
  clear hres
  go_wp2_with fail
  refine bodyPost_ret (results_none rfl _ _ _) rfl ?_
  exact ⟨rfl, rfl⟩

/-- The highest bit, or none. -/
theorem top_or {f : Nat → Nat} (hf : ∀ i, f i < 18446744073709551616) : ∀ n, (∃ t, Top f n t) ∨ ∀ i, i < n → f i = 0
  | 0 => Or.inr fun i hi => by omega
  | n + 1 => by
    by_cases h : f n = 0
    · rcases top_or hf n with ⟨t, h1, h2, h3⟩ | h1
      · refine Or.inl ⟨t, by omega, h2, fun j h4 h5 => ?_⟩
        by_cases h6 : j < 64 * n
        · exact h3 j h4 h6
        · unfold bit
          rw [show j / 64 = n by omega, h, Nat.zero_testBit]
      · refine Or.inr fun i hi => ?_
        rcases Nat.eq_or_lt_of_le (Nat.le_of_lt_succ hi) with e | e
        · rw [e, h]
        · exact h1 i e
    · obtain ⟨r, _, e2, e3, e4⟩ := bitLen_is (hf n) h
      exact Or.inl ⟨64 * n + r, top_of (by omega) e2 e3 e4 fun i h1 h2 => by omega⟩

theorem shiftLeft_any {w : World} {B p len : Nat} {S : Nat → Bool} (h : Bs w B p len S) (d : Nat) (hd : len + d ≤ 99990) (hB : B ≤ w.heap.size) :
    Calls Try.prog 60 #[.pointer (some ⟨p, 0, none⟩), .int .u64 d] w fun e' w' => e' = .returned (.tuple #[]) ∧ ∃ L, L ≤ len + d ∧
      Bs w' B p L (fun j => decide (d ≤ j) && S (j - d)) ∧ Below B w w' := by
  have h0 := h
  obtain ⟨b, n, c, f, h1, h2, h3, h4, h5, hS⟩ := h
  rcases Nat.eq_zero_or_pos d with hd0 | hd0
  · subst hd0
    refine sl_zero.mono ?_
    rintro e' w' ⟨rfl, rfl⟩
    exact ⟨rfl, len, Nat.le_add_right _ _, h0.congr fun j => by rw [decide_eq_true (Nat.zero_le j)]; rfl, Below.refl _ _⟩
  · rcases top_or h1.small n with ⟨t, ht⟩ | hz
    · have htl : t < len := by
        rcases Nat.lt_or_ge t len with h6 | h6
        · exact h6
        · have := h1.clean t h6 ht.1
          have h7 := ht.2.1
          unfold bit at h7
          rw [this] at h7; cases h7
      have key : ∃ L, L ≤ len + d ∧ t + d + 1 ≤ L ∧ Calls Try.prog 60 #[.pointer (some ⟨p, 0, none⟩), .int .u64 d] w fun e' w' => e' = .returned (.tuple #[]) ∧ ∃ b2 n2 c2 g, BSet w' p b2 n2 c2 L g ∧ (∀ j, j < L → bit g j = (decide (d ≤ j) && (decide (j - d < len) && bit f (j - d)))) ∧ Only [p, b] w w' ∧ (b2 = b ∨ w.heap.size ≤ b2) ∧ c2 ≤ 200000 := by
        have e1 := h1.n_eq
        rcases Nat.lt_or_ge n (wn (t + d + 1)) with hN | hN
        · refine ⟨t + d + 1, by omega, Nat.le_refl _, ?_⟩
          by_cases hs : d % 64 = 0
          · exact sl_n0 h1 t d ht hd0 htl hN hs (by omega) (by omega) h4
          · rcases Nat.lt_or_ge (t % 64 + d % 64) 64 with ho | ho
            · exact sl_n2 h1 t d ht hd0 htl hN hs ho (by omega) (by omega) h4
            · exact sl_n1 h1 t d ht hd0 htl hN hs ho (by omega) (by omega) h4
        · rcases Nat.lt_or_ge (t + d) len with hv | hv
          · refine ⟨len, by omega, hv, ?_⟩
            by_cases hs : d % 64 = 0
            · exact sl_k0 h1 t d ht hd0 htl hN hv hs (by omega) (by omega) h4
            · rcases Nat.lt_or_ge (t % 64 + d % 64) 64 with ho | ho
              · exact sl_k2 h1 t d ht hd0 htl hN hv hs ho (by omega) (by omega) h4
              · exact sl_k1 h1 t d ht hd0 htl hN hv hs ho (by omega) (by omega) h4
          · refine ⟨t + d + 1, by omega, Nat.le_refl _, ?_⟩
            by_cases hs : d % 64 = 0
            · exact sl_u0 h1 t d ht hd0 htl hN hv hs (by omega) (by omega) h4
            · rcases Nat.lt_or_ge (t % 64 + d % 64) 64 with ho | ho
              · exact sl_u2 h1 t d ht hd0 htl hN hv hs ho (by omega) (by omega) h4
              · exact sl_u1 h1 t d ht hd0 htl hN hv hs ho (by omega) (by omega) h4
      obtain ⟨L, hL, hLt, hc⟩ := key
      refine hc.mono ?_
      rintro e' w' ⟨rfl, b2, n2, c2, g, g1, g2, g3, g4, g5⟩
      refine ⟨rfl, L, hL, ⟨b2, n2, c2, g, g1, h2, by omega, g5, by omega, fun j => ?_⟩, g3.below hB (by simp; omega)⟩
      show (decide (d ≤ j) && S (j - d)) = _
      rw [hS]
      by_cases hj : j < L
      · rw [g2 j hj, decide_eq_true hj, Bool.true_and]
      · rw [decide_eq_false hj, Bool.false_and]
        by_cases h6 : j - d < len
        · rw [ht.2.2 (j - d) (by omega) (by have := h1.n_eq; unfold wn at this; omega)]; simp
        · rw [decide_eq_false h6]; simp
    · refine (sl_empty h1 d hz hd0 h5).mono ?_
      rintro e' w' ⟨rfl, rfl⟩
      refine ⟨rfl, len, Nat.le_add_right _ _, h0.congr fun j => ?_, Below.refl _ _⟩
      have hn : ∀ j, S j = false := fun j => by
        rw [hS]
        by_cases h6 : j < len
        · rw [zero_bits (k := 0) (fun i _ hi => hz i hi) j (by omega) (by have := h1.n_eq; unfold wn at this; omega)]; simp
        · rw [decide_eq_false h6]; rfl
      rw [hn, hn]; simp

theorem shiftRight_any {w : World} {B p len : Nat} {S : Nat → Bool} (h : Bs w B p len S) (d : Nat) (hd : ∃ j, d ≤ j ∧ S j = true) (hB : B ≤ w.heap.size) :
    Calls Try.prog 74 #[.pointer (some ⟨p, 0, none⟩), .int .u64 d] w fun e' w' => e' = .returned (.tuple #[]) ∧ Bs w' B p len (fun j => S (j + d)) ∧ Below B w w' := by
  have h0 := h
  obtain ⟨b, n, c, f, h1, h2, h3, h4, h5, hS⟩ := h
  rcases Nat.eq_zero_or_pos d with hd0 | hd0
  · subst hd0
    refine rs_zero.mono ?_
    rintro e' w' ⟨rfl, rfl⟩
    exact ⟨rfl, h0, Below.refl _ _⟩
  · obtain ⟨j0, hj0, hj1⟩ := hd
    have hj2 : j0 < len ∧ bit f j0 = true := by
      rw [hS] at hj1
      simp at hj1
      exact hj1
    have hj3 : j0 < 64 * n := by have := h1.n_eq; unfold wn at this; omega
    rcases top_or h1.small n with ⟨t, ht⟩ | hz
    · have htl : t < len := by
        rcases Nat.lt_or_ge t len with h6 | h6
        · exact h6
        · have := h1.clean t h6 ht.1
          have h7 := ht.2.1
          unfold bit at h7
          rw [this] at h7; cases h7
      have hjt : j0 ≤ t := by
        rcases Nat.lt_or_ge t j0 with h6 | h6
        · have := ht.2.2 j0 h6 hj3
          rw [hj2.2] at this; cases this
        · exact h6
      have key : Calls Try.prog 74 #[.pointer (some ⟨p, 0, none⟩), .int .u64 d] w fun e' w' => e' = .returned (.tuple #[]) ∧ ∃ g, BSet w' p b n c len g ∧ (∀ j, j < len → bit g j = (decide (j + d < len) && bit f (j + d))) ∧ Only [p, b] w w' := by
        by_cases hs : d % 64 = 0
        · exact rs_0 h1 t d ht hd0 (by omega) htl hs h5
        · rcases Nat.lt_or_ge (t % 64) (d % 64) with ho | ho
          · exact rs_1 h1 t d ht hd0 (by omega) htl hs ho h5
          · exact rs_2 h1 t d ht hd0 (by omega) htl hs ho h5
      refine key.mono ?_
      rintro e' w' ⟨rfl, g, g1, g2, g3⟩
      refine ⟨rfl, ⟨b, n, c, g, g1, h2, h3, h4, h5, fun j => ?_⟩, g3.below hB (by simp; omega)⟩
      show S (j + d) = _
      rw [hS]
      by_cases hj : j < len
      · rw [g2 j hj, decide_eq_true hj, Bool.true_and]
      · rw [decide_eq_false hj, decide_eq_false (show ¬ j + d < len by omega)]; rfl
    · exfalso
      have := zero_bits (k := 0) (fun i _ hi => hz i hi) j0 (by omega) hj3
      rw [hj2.2] at this; cases this

set_option maxHeartbeats 400000 in
theorem iShiftL {w : World} {v : Value} {len : Nat} {S : Nat → Bool} (h : IsBits w v len S) (d : Nat) (hd : len + d ≤ 99990) :
    Calls Try.prog 25 #[v, .int .u64 d] w fun e w' => ∃ L, L ≤ len + d ∧ Gives w L (fun j => decide (d ≤ j) && S (j - d)) e w' := by
  have H := Lib.hid h
  obtain ⟨so, n, cp, rfl⟩ := h.shape
  clear h
  go_enter Try.func25, Try.ntmps25
  go_wp2_with fail
  have r0 := Blk.new (w.alloc (Obj.cells #[Value.int IntKind.u64 ↑len, Value.slice so n cp] 25)) #[Value.int IntKind.u64 0, Value.slice none 0 0] 25
  simp at r0
  have R0 := Lib.hid r0
  clear r0
  refine (set64_any (H.out.same (((Below.refl _ _).alloc (Nat.le_refl _) _).alloc (by simp) _))).mono ?_
  rintro e w1 ⟨p, rfl, hB, hb⟩
  simp at hB hb
  have HB : Hid (Bs w1 (w.heap.size + 1 + 1) p len S ∧ Below w.heap.size w w1 ∧ Blk w1 (w.heap.size + 1) #[.int .u64 0, .slice none 0 0] 25) :=
    ⟨hB, (((Below.refl _ _).alloc (Nat.le_refl _) _).alloc (by simp) _).trans (hb.mono (by omega)), R0.out.below hb (by omega)⟩
  have hsz : w.heap.size + 1 + 1 ≤ w1.heap.size := by have := hb.size; simpa using this
  clear hB hb R0
  go_wp2_with fail
  refine (shiftLeft_any HB.out.1 d hd hsz).mono ?_
  rintro e w2 ⟨rfl, L, hLL, hB, hb⟩
  have HC : Hid (Bs w2 (w.heap.size + 1 + 1) p L (fun j => decide (d ≤ j) && S (j - d)) ∧ Below w.heap.size w w2 ∧ Blk w2 (w.heap.size + 1) #[.int .u64 0, .slice none 0 0] 25 ∧ w.heap.size + 1 < w2.heap.size) :=
    ⟨hB, HB.out.2.1.trans (hb.mono (by omega)), HB.out.2.2.below hb (by omega), by have := hb.size; omega⟩
  clear hB hb HB hsz
  go_wp2_with fail
  refine (said64_any HC.out.1).mono ?_
  rintro e w3 ⟨v', rfl, hv, hb⟩
  obtain ⟨so', n', cp', rfl⟩ := (hv w3 (fun _ _ _ => rfl)).shape
  have hk := HC.out.2.2.1.below hb HC.out.2.2.2
  have HE := Lib.hid (gives_end (by omega) HC.out.2.2.2 hk hv (HC.out.2.1.trans (hb.mono HC.out.2.1.size)))
  have e0 : w3.cell? ⟨w.heap.size + 1, 0, none⟩ = some (.int .u64 0) := hk.cell rfl
  have e1 : w3.cell? ⟨w.heap.size + 1, 1, none⟩ = some (.slice none 0 0) := hk.cell rfl
  have f0 := hk.free 0
  have f1 := hk.free 1
  clear hk hv hb
  go_wp2_with fail
  have d0 := HE.out.1.cell (i := 0) rfl
  have d1 := HE.out.1.cell (i := 1) rfl
  refine bodyPost_ret (v := .agg #[.int .u64 L, .slice so' n' cp']) ?_ rfl ⟨L, hLL, HE.out.2⟩
  simp at d0 d1
  simp [results, Try.results25, go_sem, d0, d1]

set_option maxHeartbeats 400000 in
theorem iShiftR {w : World} {v : Value} {len : Nat} {S : Nat → Bool} (h : IsBits w v len S) (d : Nat) (hd : ∃ j, d ≤ j ∧ S j = true) :
    Calls Try.prog 40 #[v, .int .u64 d] w (Gives w (len) fun j => S (j + d)) := by
  suffices key : ∀ L, L = len → Calls Try.prog 40 #[v, .int .u64 d] w (Gives w L fun j => S (j + d)) from key _ rfl
  intro L hL
  have HL := Lib.hid hL
  clear hL
  have H := Lib.hid h
  obtain ⟨so, n, cp, rfl⟩ := h.shape
  clear h
  go_enter Try.func40, Try.ntmps40
  go_wp2_with fail
  have r0 := Blk.new (w.alloc (Obj.cells #[Value.int IntKind.u64 ↑len, Value.slice so n cp] 25)) #[Value.int IntKind.u64 0, Value.slice none 0 0] 25
  simp at r0
  have R0 := Lib.hid r0
  clear r0
  refine (set64_any (H.out.same (((Below.refl _ _).alloc (Nat.le_refl _) _).alloc (by simp) _))).mono ?_
  rintro e w1 ⟨p, rfl, hB, hb⟩
  simp at hB hb
  have HB : Hid (Bs w1 (w.heap.size + 1 + 1) p len S ∧ Below w.heap.size w w1 ∧ Blk w1 (w.heap.size + 1) #[.int .u64 0, .slice none 0 0] 25) :=
    ⟨hB, (((Below.refl _ _).alloc (Nat.le_refl _) _).alloc (by simp) _).trans (hb.mono (by omega)), R0.out.below hb (by omega)⟩
  have hsz : w.heap.size + 1 + 1 ≤ w1.heap.size := by have := hb.size; simpa using this
  clear hB hb R0
  go_wp2_with fail
  refine (shiftRight_any HB.out.1 d hd hsz).mono ?_
  rintro e w2 ⟨rfl, hB, hb⟩
  have HC : Hid (Bs w2 (w.heap.size + 1 + 1) p L (fun j => S (j + d)) ∧ Below w.heap.size w w2 ∧ Blk w2 (w.heap.size + 1) #[.int .u64 0, .slice none 0 0] 25 ∧ w.heap.size + 1 < w2.heap.size) :=
    ⟨by rw [HL.out]; exact hB, HB.out.2.1.trans (hb.mono (by omega)), HB.out.2.2.below hb (by omega), by have := hb.size; omega⟩
  clear hB hb HB hsz
  go_wp2_with fail
  refine (said64_any HC.out.1).mono ?_
  rintro e w3 ⟨v', rfl, hv, hb⟩
  obtain ⟨so', n', cp', rfl⟩ := (hv w3 (fun _ _ _ => rfl)).shape
  have hk := HC.out.2.2.1.below hb HC.out.2.2.2
  have HE := Lib.hid (gives_end (by omega) HC.out.2.2.2 hk hv (HC.out.2.1.trans (hb.mono HC.out.2.1.size)))
  have e0 : w3.cell? ⟨w.heap.size + 1, 0, none⟩ = some (.int .u64 0) := hk.cell rfl
  have e1 : w3.cell? ⟨w.heap.size + 1, 1, none⟩ = some (.slice none 0 0) := hk.cell rfl
  have f0 := hk.free 0
  have f1 := hk.free 1
  clear hk hv hb
  go_wp2_with fail
  have d0 := HE.out.1.cell (i := 0) rfl
  have d1 := HE.out.1.cell (i := 1) rfl
  refine bodyPost_ret (v := .agg #[.int .u64 L, .slice so' n' cp']) ?_ rfl HE.out.2
  simp at d0 d1
  simp [results, Try.results40, go_sem, d0, d1]

end Go.Proofs.Ytpmnpaannbhoeaa
