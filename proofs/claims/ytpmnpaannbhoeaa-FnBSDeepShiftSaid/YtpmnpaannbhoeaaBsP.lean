/- FlipRange and InsertAt of a set; bitsets that are the same. -/
import Derived.Test.YtpmnpaannbhoeaaBsM
import Derived.Test.YtpmnpaannbhoeaaBsN
namespace Go.Proofs.Ytpmnpaannbhoeaa
open Go.RowKit Pop

set_option maxHeartbeats 400000 in
theorem flipRange_none {w : World} {p : Nat} (x y : Nat) (h : y ≤ x) :
    Calls Try.prog 73 #[.pointer (some ⟨p, 0, none⟩), .int .u64 x, .int .u64 y] w fun e' w' => e' = .returned (.pointer (some ⟨p, 0, none⟩)) ∧ w = w' := by
  go_enter Try.func73, Try.ntmps73
  go_wp2_with fail
  go_ret
  exact ⟨rfl, rfl⟩

theorem flipRange_any {w : World} {B p len : Nat} {S : Nat → Bool} (h : Bs w B p len S) (x y : Nat) (hxy : x < y) (hl : len ≤ 99999) (hy2 : y ≤ 99999) (hB : B ≤ w.heap.size) :
    Calls Try.prog 73 #[.pointer (some ⟨p, 0, none⟩), .int .u64 x, .int .u64 y] w fun e' w' => e' = .returned (.pointer (some ⟨p, 0, none⟩)) ∧
      Bs w' B p (max len y) (fun j => S j != (decide (x ≤ j) && decide (j < y))) ∧ Below B w w' := by
  obtain ⟨b, n, c, f, h1, h2, h3, h4, h5, hS⟩ := h
  obtain ⟨k, s, hk, hs⟩ : ∃ k s, x = 64 * k + s ∧ s < 64 := ⟨x / 64, x % 64, by omega, Nat.mod_lt _ (by decide)⟩
  obtain ⟨m, e, hm, he⟩ : ∃ k s, y = 64 * k + s ∧ s < 64 := ⟨y / 64, y % 64, by omega, Nat.mod_lt _ (by decide)⟩
  obtain ⟨D, rfl⟩ : ∃ D, m = k + D := ⟨m - k, by omega⟩
  by_cases hg : len < y
  · have key : Calls Try.prog 73 #[.pointer (some ⟨p, 0, none⟩), .int .u64 x, .int .u64 y] w fun e' w' => e' = .returned (.pointer (some ⟨p, 0, none⟩)) ∧ ∃ b2 n2 c2 g, BSet w' p b2 n2 c2 y g ∧ (∀ j, j < y → bit g j = ((decide (j < len) && bit f j) != (decide (x ≤ j) && decide (j < y)))) ∧ Only [p, b] w w' ∧ (b2 = b ∨ w.heap.size ≤ b2) ∧ c2 ≤ 200000 := by
      rcases Nat.eq_zero_or_pos e with he0 | he0
      · subst he0; exact fr_g0 h1 x y k s D hk hs hm hxy hg hl hy2 h4
      · exact fr_g1 h1 x y k s D e hk hs hm he0 he hxy hg hl hy2 h4
    refine key.mono ?_
    rintro e' w' ⟨rfl, b2, n2, c2, g, g1, g2, g3, g4, g5⟩
    refine ⟨rfl, ⟨b2, n2, c2, g, by rw [Nat.max_eq_right (by omega)]; exact g1, h2, by omega, g5, by omega, fun j => ?_⟩, g3.below hB (by simp; omega)⟩
    show (S j != (decide (x ≤ j) && decide (j < y))) = _
    rw [Nat.max_eq_right (by omega), hS]
    by_cases hj : j < y
    · rw [g2 j hj, decide_eq_true hj, Bool.true_and]
    · rw [decide_eq_false hj, decide_eq_false (show ¬ j < len by omega)]; simp
  · have key : Calls Try.prog 73 #[.pointer (some ⟨p, 0, none⟩), .int .u64 x, .int .u64 y] w fun e' w' => e' = .returned (.pointer (some ⟨p, 0, none⟩)) ∧ ∃ g, BSet w' p b n c len g ∧ (∀ j, bit g j = (bit f j != (decide (x ≤ j) && decide (j < y)))) ∧ Only [b] w w' := by
      rcases Nat.eq_zero_or_pos e with he0 | he0
      · subst he0; exact fr_k0 h1 x y k s D hk hs hm hxy (by omega) hl hy2 h4
      · exact fr_k1 h1 x y k s D e hk hs hm he0 he hxy (by omega) hl hy2 h4
    refine key.mono ?_
    rintro e' w' ⟨rfl, g, g1, g2, g3⟩
    refine ⟨rfl, ⟨b, n, c, g, by rw [Nat.max_eq_left (by omega)]; exact g1, h2, h3, h4, by omega, fun j => ?_⟩, g3.below hB (by simp; omega)⟩
    show (S j != (decide (x ≤ j) && decide (j < y))) = _
    rw [Nat.max_eq_left (by omega), hS, g2]
    by_cases hj : j < len
    · rw [decide_eq_true hj]; simp
    · rw [decide_eq_false hj, decide_eq_false (show ¬ j < y by omega)]; simp

theorem insert_any {w : World} {B p len : Nat} {S : Nat → Bool} (h : Bs w B p len S) (i : Nat) (hi : i < len) (hl : len ≤ 99998) (hB : B ≤ w.heap.size) :
    Calls Try.prog 64 #[.pointer (some ⟨p, 0, none⟩), .int .u64 i] w fun e' w' => e' = .returned (.pointer (some ⟨p, 0, none⟩)) ∧
      Bs w' B p (len + 1) (fun j => (decide (j < i) && S j) || (decide (i < j) && S (j - 1))) ∧ Below B w w' := by
  obtain ⟨b, n, c, f, h1, h2, h3, h4, h5, hS⟩ := h
  refine (ins_words h1 i (i / 64) (i % 64) (by omega) (Nat.mod_lt _ (by decide)) hi hl h4).mono ?_
  rintro e' w' ⟨rfl, b2, n2, c2, g, g1, g2, g3, g4, g5⟩
  refine ⟨rfl, ⟨b2, n2, c2, g, g1, h2, by omega, g5, by omega, fun j => ?_⟩, g3.below hB (by simp; omega)⟩
  show ((decide (j < i) && S j) || (decide (i < j) && S (j - 1))) = _
  rw [hS, hS]
  by_cases hj : j < len + 1
  · rw [g2 j hj, decide_eq_true hj, Bool.true_and]
    by_cases h6 : j < i
    · rw [decide_eq_true (show j < len by omega), decide_eq_false (show ¬ i < j by omega)]; simp
    · rw [decide_eq_false h6]
      by_cases h7 : i < j
      · rw [decide_eq_true (show j - 1 < len by omega)]; simp
      · rw [decide_eq_false h7]; simp
  · rw [decide_eq_false hj, decide_eq_false (show ¬ j < i by omega), decide_eq_false (show ¬ j - 1 < len by omega)]; simp

set_option maxHeartbeats 400000 in
theorem same_true {w : World} {a b : Value} {la : Nat} {S S' : Nat → Bool} (ha : IsBits w a la S) (hb : IsBits w b la S') (h : ∀ j, S j = S' j) :
    Calls Try.prog 38 #[a, b] w fun e w' => e = .returned (.bool true) ∧ Below w.heap.size w w' := by
  obtain rfl : S = S' := funext h
  obtain ⟨sa, rfl, na, la2, oa⟩ := ha
  obtain ⟨sb, rfl, nb, lb2, ob⟩ := hb
  obtain ⟨so, cp, rfl⟩ := na.shape
  obtain ⟨so', cp', rfl⟩ := nb.shape
  have HA := Lib.hid na
  have HB := Lib.hid nb
  have HL := Lib.hid (filter_len_le la S)
  clear oa ob na nb
  generalize (List.range la).filter S = xs at *
  have hee : ((la : Int) == (la : Int)) = true := beq_self_eq_true _
  have hbs : ∀ d : Nat, ∀ W : World, Below w.heap.size w W → Calls Try.prog 52 #[.slice so xs.length cp, .slice so' xs.length cp'] W fun e w' => e = .returned (.bool true) ∧ ∃ k, w' = W.drewN k := fun _ W hb => by
    have := bsList_any (HA.out.same hb) (HB.out.same hb) (by have := HL.out; omega)
    rwa [decide_eq_true rfl] at this
  have HBS := Lib.hid hbs
  clear hbs
  go_enter Try.func38, Try.ntmps38
  go_wp2_with fail
  have HW : Hid (Below w.heap.size w ((w.alloc (Obj.cells #[Value.int IntKind.u64 ↑la, Value.slice so xs.length cp] 25)).alloc (Obj.cells #[Value.int IntKind.u64 ↑la, Value.slice so' xs.length cp'] 25))) := ((Below.refl _ _).alloc (Nat.le_refl _) _).alloc (by simp) _
  refine (HBS.out 0 _ HW.out).mono ?_
  rintro e w1 ⟨rfl, d, rfl⟩
  go_wp2_with fail
  go_ret
  exact ⟨rfl, below_drewN HW.out d⟩

theorem setRange_le {w : World} {B p len : Nat} {S : Nat → Bool} (h : Bs w B p len S) (x y : Nat) (hxy : x ≤ y) (hor : x < y ∨ y ≤ len) (hl : len ≤ 99999) (hy2 : y ≤ 99999) (hB : B ≤ w.heap.size) :
    Calls Try.prog 71 #[.pointer (some ⟨p, 0, none⟩), .int .u64 x, .int .u64 y] w fun e' w' => e' = .returned (.pointer (some ⟨p, 0, none⟩)) ∧
      Bs w' B p (max len y) (fun j => S j || (decide (x ≤ j) && decide (j < y))) ∧ Below B w w' := by
  by_cases hlt : x < y
  · exact setRange_any h x y hlt hl hy2 hB
  · refine (setRange_none x y (by omega)).mono ?_
    rintro e' w' ⟨rfl, rfl⟩
    refine ⟨rfl, ?_, Below.refl _ _⟩
    rw [Nat.max_eq_left (by omega)]
    refine h.congr fun j => ?_
    have : (decide (x ≤ j) && decide (j < y)) = false := by
      by_cases h1 : x ≤ j
      · rw [decide_eq_false (show ¬ j < y by omega), Bool.and_false]
      · rw [decide_eq_false h1, Bool.false_and]
    rw [this, Bool.or_false]
theorem flipRange_le {w : World} {B p len : Nat} {S : Nat → Bool} (h : Bs w B p len S) (x y : Nat) (hxy : x ≤ y) (hor : x < y ∨ y ≤ len) (hl : len ≤ 99999) (hy2 : y ≤ 99999) (hB : B ≤ w.heap.size) :
    Calls Try.prog 73 #[.pointer (some ⟨p, 0, none⟩), .int .u64 x, .int .u64 y] w fun e' w' => e' = .returned (.pointer (some ⟨p, 0, none⟩)) ∧
      Bs w' B p (max len y) (fun j => S j != (decide (x ≤ j) && decide (j < y))) ∧ Below B w w' := by
  by_cases hlt : x < y
  · exact flipRange_any h x y hlt hl hy2 hB
  · refine (flipRange_none x y (by omega)).mono ?_
    rintro e' w' ⟨rfl, rfl⟩
    refine ⟨rfl, ?_, Below.refl _ _⟩
    rw [Nat.max_eq_left (by omega)]
    refine h.congr fun j => ?_
    have : (decide (x ≤ j) && decide (j < y)) = false := by
      by_cases h1 : x ≤ j
      · rw [decide_eq_false (show ¬ j < y by omega), Bool.and_false]
      · rw [decide_eq_false h1, Bool.false_and]
    rw [this, Bool.bne_false]

set_option maxHeartbeats 400000 in
theorem iSetRangeLe {w : World} {v : Value} {len : Nat} {S : Nat → Bool} (h : IsBits w v len S) (x y : Nat) (hxy : x ≤ y) (hor : x < y ∨ y ≤ len) (hl99 : len ≤ 99999) (hy2 : y ≤ 99999) :
    Calls Try.prog 36 #[v, .int .u64 x, .int .u64 y] w (Gives w (max len y) fun j => S j || (decide (x ≤ j) && decide (j < y))) := by
  suffices key : ∀ L, L = max len y → Calls Try.prog 36 #[v, .int .u64 x, .int .u64 y] w (Gives w L fun j => S j || (decide (x ≤ j) && decide (j < y))) from key _ rfl
  intro L hL
  have HL := Lib.hid hL
  clear hL
  have H := Lib.hid h
  obtain ⟨so, n, cp, rfl⟩ := h.shape
  clear h
  go_enter Try.func36, Try.ntmps36
  go_wp2_with fail
  have r0 := Blk.new (w.alloc (Obj.cells #[Value.int IntKind.u64 ↑len, Value.slice so n cp] 25)) #[Value.int IntKind.u64 0, Value.slice none 0 0] 25
  simp at r0
  have R0 := Lib.hid r0
  clear r0
  refine (set64_any (H.out.same (((Below.refl _ _).alloc (Nat.le_refl _) _).alloc (by simp) _))).mono ?_
  rintro e w1 ⟨p, rfl, hB, hb⟩
  simp at hB hb
  have HB : Hid (Bs w1 (w.heap.size + 1 + 1) p len S ∧ Below w.heap.size w w1 ∧ Blk w1 (w.heap.size + 1) #[.int .u64 0, .slice none 0 0] 25) :=
    ⟨hB, (((Below.refl _ _).alloc (Nat.le_refl _) _).alloc (by simp) _).trans (hb.mono (by omega)), R0.out.below hb (by omega)⟩
  have hsz : w.heap.size + 1 + 1 ≤ w1.heap.size := by have := hb.size; simpa using this
  clear hB hb R0
  go_wp2_with fail
  refine (setRange_le HB.out.1 x y hxy hor hl99 hy2 hsz).mono ?_
  rintro e w2 ⟨rfl, hB, hb⟩
  have HC : Hid (Bs w2 (w.heap.size + 1 + 1) p L (fun j => S j || (decide (x ≤ j) && decide (j < y))) ∧ Below w.heap.size w w2 ∧ Blk w2 (w.heap.size + 1) #[.int .u64 0, .slice none 0 0] 25 ∧ w.heap.size + 1 < w2.heap.size) :=
    ⟨by rw [HL.out]; exact hB, HB.out.2.1.trans (hb.mono (by omega)), HB.out.2.2.below hb (by omega), by have := hb.size; omega⟩
  clear hB hb HB hsz
  go_wp2_with fail
  refine (said64_any HC.out.1).mono ?_
  rintro e w3 ⟨v', rfl, hv, hb⟩
  obtain ⟨so', n', cp', rfl⟩ := (hv w3 (fun _ _ _ => rfl)).shape
  have hk := HC.out.2.2.1.below hb HC.out.2.2.2
  have HE := Lib.hid (gives_end (by omega) HC.out.2.2.2 hk hv (HC.out.2.1.trans (hb.mono HC.out.2.1.size)))
  have e0 : w3.cell? ⟨w.heap.size + 1, 0, none⟩ = some (.int .u64 0) := hk.cell rfl
  have e1 : w3.cell? ⟨w.heap.size + 1, 1, none⟩ = some (.slice none 0 0) := hk.cell rfl
  have f0 := hk.free 0
  have f1 := hk.free 1
  clear hk hv hb
  go_wp2_with fail
  have d0 := HE.out.1.cell (i := 0) rfl
  have d1 := HE.out.1.cell (i := 1) rfl
  refine bodyPost_ret (v := .agg #[.int .u64 L, .slice so' n' cp']) ?_ rfl HE.out.2
  simp at d0 d1
  simp [results, Try.results36, go_sem, d0, d1]

set_option maxHeartbeats 400000 in
theorem iFlipRangeLe {w : World} {v : Value} {len : Nat} {S : Nat → Bool} (h : IsBits w v len S) (x y : Nat) (hxy : x ≤ y) (hor : x < y ∨ y ≤ len) (hl99 : len ≤ 99999) (hy2 : y ≤ 99999) :
    Calls Try.prog 39 #[v, .int .u64 x, .int .u64 y] w (Gives w (max len y) fun j => S j != (decide (x ≤ j) && decide (j < y))) := by
  suffices key : ∀ L, L = max len y → Calls Try.prog 39 #[v, .int .u64 x, .int .u64 y] w (Gives w L fun j => S j != (decide (x ≤ j) && decide (j < y))) from key _ rfl
  intro L hL
  have HL := Lib.hid hL
  clear hL
  have H := Lib.hid h
  obtain ⟨so, n, cp, rfl⟩ := h.shape
  clear h
  go_enter Try.func39, Try.ntmps39
  go_wp2_with fail
  have r0 := Blk.new (w.alloc (Obj.cells #[Value.int IntKind.u64 ↑len, Value.slice so n cp] 25)) #[Value.int IntKind.u64 0, Value.slice none 0 0] 25
  simp at r0
  have R0 := Lib.hid r0
  clear r0
  refine (set64_any (H.out.same (((Below.refl _ _).alloc (Nat.le_refl _) _).alloc (by simp) _))).mono ?_
  rintro e w1 ⟨p, rfl, hB, hb⟩
  simp at hB hb
  have HB : Hid (Bs w1 (w.heap.size + 1 + 1) p len S ∧ Below w.heap.size w w1 ∧ Blk w1 (w.heap.size + 1) #[.int .u64 0, .slice none 0 0] 25) :=
    ⟨hB, (((Below.refl _ _).alloc (Nat.le_refl _) _).alloc (by simp) _).trans (hb.mono (by omega)), R0.out.below hb (by omega)⟩
  have hsz : w.heap.size + 1 + 1 ≤ w1.heap.size := by have := hb.size; simpa using this
  clear hB hb R0
  go_wp2_with fail
  refine (flipRange_le HB.out.1 x y hxy hor hl99 hy2 hsz).mono ?_
  rintro e w2 ⟨rfl, hB, hb⟩
  have HC : Hid (Bs w2 (w.heap.size + 1 + 1) p L (fun j => S j != (decide (x ≤ j) && decide (j < y))) ∧ Below w.heap.size w w2 ∧ Blk w2 (w.heap.size + 1) #[.int .u64 0, .slice none 0 0] 25 ∧ w.heap.size + 1 < w2.heap.size) :=
    ⟨by rw [HL.out]; exact hB, HB.out.2.1.trans (hb.mono (by omega)), HB.out.2.2.below hb (by omega), by have := hb.size; omega⟩
  clear hB hb HB hsz
  go_wp2_with fail
  refine (said64_any HC.out.1).mono ?_
  rintro e w3 ⟨v', rfl, hv, hb⟩
  obtain ⟨so', n', cp', rfl⟩ := (hv w3 (fun _ _ _ => rfl)).shape
  have hk := HC.out.2.2.1.below hb HC.out.2.2.2
  have HE := Lib.hid (gives_end (by omega) HC.out.2.2.2 hk hv (HC.out.2.1.trans (hb.mono HC.out.2.1.size)))
  have e0 : w3.cell? ⟨w.heap.size + 1, 0, none⟩ = some (.int .u64 0) := hk.cell rfl
  have e1 : w3.cell? ⟨w.heap.size + 1, 1, none⟩ = some (.slice none 0 0) := hk.cell rfl
  have f0 := hk.free 0
  have f1 := hk.free 1
  clear hk hv hb
  go_wp2_with fail
  have d0 := HE.out.1.cell (i := 0) rfl
  have d1 := HE.out.1.cell (i := 1) rfl
  refine bodyPost_ret (v := .agg #[.int .u64 L, .slice so' n' cp']) ?_ rfl HE.out.2
  simp at d0 d1
  simp [results, Try.results39, go_sem, d0, d1]

theorem cd_all {S : Nat → Bool} : ∀ n, (∀ j, j < n → S j = true) → cd S n = n
  | 0, _ => rfl
  | n + 1, h => by rw [cd, cd_all n fun j hj => h j (by omega), h n (by omega)]; rfl
theorem cd_full {S : Nat → Bool} {x d : Nat} (h : ∀ j, x ≤ j → j < x + d → S j = true) : cd S (x + d) - cd S x = d := by
  rw [cd_add, cd_all d fun j hj => h (x + j) (by omega) (by omega)]
  omega

set_option maxHeartbeats 400000 in
theorem iFlipRange {w : World} {v : Value} {len : Nat} {S : Nat → Bool} (h : IsBits w v len S) (x y : Nat) (hxy : x < y) (hl99 : len ≤ 99999) (hy2 : y ≤ 99999) :
    Calls Try.prog 39 #[v, .int .u64 x, .int .u64 y] w (Gives w (max len y) fun j => S j != (decide (x ≤ j) && decide (j < y))) := by
  suffices key : ∀ L, L = max len y → Calls Try.prog 39 #[v, .int .u64 x, .int .u64 y] w (Gives w L fun j => S j != (decide (x ≤ j) && decide (j < y))) from key _ rfl
  intro L hL
  have HL := Lib.hid hL
  clear hL
  have H := Lib.hid h
  obtain ⟨so, n, cp, rfl⟩ := h.shape
  clear h
  go_enter Try.func39, Try.ntmps39
  go_wp2_with fail
  have r0 := Blk.new (w.alloc (Obj.cells #[Value.int IntKind.u64 ↑len, Value.slice so n cp] 25)) #[Value.int IntKind.u64 0, Value.slice none 0 0] 25
  simp at r0
  have R0 := Lib.hid r0
  clear r0
  refine (set64_any (H.out.same (((Below.refl _ _).alloc (Nat.le_refl _) _).alloc (by simp) _))).mono ?_
  rintro e w1 ⟨p, rfl, hB, hb⟩
  simp at hB hb
  have HB : Hid (Bs w1 (w.heap.size + 1 + 1) p len S ∧ Below w.heap.size w w1 ∧ Blk w1 (w.heap.size + 1) #[.int .u64 0, .slice none 0 0] 25) :=
    ⟨hB, (((Below.refl _ _).alloc (Nat.le_refl _) _).alloc (by simp) _).trans (hb.mono (by omega)), R0.out.below hb (by omega)⟩
  have hsz : w.heap.size + 1 + 1 ≤ w1.heap.size := by have := hb.size; simpa using this
  clear hB hb R0
  go_wp2_with fail
  refine (flipRange_any HB.out.1 x y hxy hl99 hy2 hsz).mono ?_
  rintro e w2 ⟨rfl, hB, hb⟩
  have HC : Hid (Bs w2 (w.heap.size + 1 + 1) p L (fun j => S j != (decide (x ≤ j) && decide (j < y))) ∧ Below w.heap.size w w2 ∧ Blk w2 (w.heap.size + 1) #[.int .u64 0, .slice none 0 0] 25 ∧ w.heap.size + 1 < w2.heap.size) :=
    ⟨by rw [HL.out]; exact hB, HB.out.2.1.trans (hb.mono (by omega)), HB.out.2.2.below hb (by omega), by have := hb.size; omega⟩
  clear hB hb HB hsz
  go_wp2_with fail
  refine (said64_any HC.out.1).mono ?_
  rintro e w3 ⟨v', rfl, hv, hb⟩
  obtain ⟨so', n', cp', rfl⟩ := (hv w3 (fun _ _ _ => rfl)).shape
  have hk := HC.out.2.2.1.below hb HC.out.2.2.2
  have HE := Lib.hid (gives_end (by omega) HC.out.2.2.2 hk hv (HC.out.2.1.trans (hb.mono HC.out.2.1.size)))
  have e0 : w3.cell? ⟨w.heap.size + 1, 0, none⟩ = some (.int .u64 0) := hk.cell rfl
  have e1 : w3.cell? ⟨w.heap.size + 1, 1, none⟩ = some (.slice none 0 0) := hk.cell rfl
  have f0 := hk.free 0
  have f1 := hk.free 1
  clear hk hv hb
  go_wp2_with fail
  have d0 := HE.out.1.cell (i := 0) rfl
  have d1 := HE.out.1.cell (i := 1) rfl
  refine bodyPost_ret (v := .agg #[.int .u64 L, .slice so' n' cp']) ?_ rfl HE.out.2
  simp at d0 d1
  simp [results, Try.results39, go_sem, d0, d1]

set_option maxHeartbeats 400000 in
theorem iInsert {w : World} {v : Value} {len : Nat} {S : Nat → Bool} (h : IsBits w v len S) (i : Nat) (hi : i < len) (hl98 : len ≤ 99998) :
    Calls Try.prog 29 #[v, .int .u64 i] w (Gives w (len + 1) fun j => (decide (j < i) && S j) || (decide (i < j) && S (j - 1))) := by
  suffices key : ∀ L, L = len + 1 → Calls Try.prog 29 #[v, .int .u64 i] w (Gives w L fun j => (decide (j < i) && S j) || (decide (i < j) && S (j - 1))) from key _ rfl
  intro L hL
  have HL := Lib.hid hL
  clear hL
  have H := Lib.hid h
  obtain ⟨so, n, cp, rfl⟩ := h.shape
  clear h
  go_enter Try.func29, Try.ntmps29
  go_wp2_with fail
  have r0 := Blk.new (w.alloc (Obj.cells #[Value.int IntKind.u64 ↑len, Value.slice so n cp] 25)) #[Value.int IntKind.u64 0, Value.slice none 0 0] 25
  simp at r0
  have R0 := Lib.hid r0
  clear r0
  refine (set64_any (H.out.same (((Below.refl _ _).alloc (Nat.le_refl _) _).alloc (by simp) _))).mono ?_
  rintro e w1 ⟨p, rfl, hB, hb⟩
  simp at hB hb
  have HB : Hid (Bs w1 (w.heap.size + 1 + 1) p len S ∧ Below w.heap.size w w1 ∧ Blk w1 (w.heap.size + 1) #[.int .u64 0, .slice none 0 0] 25) :=
    ⟨hB, (((Below.refl _ _).alloc (Nat.le_refl _) _).alloc (by simp) _).trans (hb.mono (by omega)), R0.out.below hb (by omega)⟩
  have hsz : w.heap.size + 1 + 1 ≤ w1.heap.size := by have := hb.size; simpa using this
  clear hB hb R0
  go_wp2_with fail
  refine (insert_any HB.out.1 i hi hl98 hsz).mono ?_
  rintro e w2 ⟨rfl, hB, hb⟩
  have HC : Hid (Bs w2 (w.heap.size + 1 + 1) p L (fun j => (decide (j < i) && S j) || (decide (i < j) && S (j - 1))) ∧ Below w.heap.size w w2 ∧ Blk w2 (w.heap.size + 1) #[.int .u64 0, .slice none 0 0] 25 ∧ w.heap.size + 1 < w2.heap.size) :=
    ⟨by rw [HL.out]; exact hB, HB.out.2.1.trans (hb.mono (by omega)), HB.out.2.2.below hb (by omega), by have := hb.size; omega⟩
  clear hB hb HB hsz
  go_wp2_with fail
  refine (said64_any HC.out.1).mono ?_
  rintro e w3 ⟨v', rfl, hv, hb⟩
  obtain ⟨so', n', cp', rfl⟩ := (hv w3 (fun _ _ _ => rfl)).shape
  have hk := HC.out.2.2.1.below hb HC.out.2.2.2
  have HE := Lib.hid (gives_end (by omega) HC.out.2.2.2 hk hv (HC.out.2.1.trans (hb.mono HC.out.2.1.size)))
  have e0 : w3.cell? ⟨w.heap.size + 1, 0, none⟩ = some (.int .u64 0) := hk.cell rfl
  have e1 : w3.cell? ⟨w.heap.size + 1, 1, none⟩ = some (.slice none 0 0) := hk.cell rfl
  have f0 := hk.free 0
  have f1 := hk.free 1
  clear hk hv hb
  go_wp2_with fail
  have d0 := HE.out.1.cell (i := 0) rfl
  have d1 := HE.out.1.cell (i := 1) rfl
  refine bodyPost_ret (v := .agg #[.int .u64 L, .slice so' n' cp']) ?_ rfl HE.out.2
  simp at d0 d1
  simp [results, Try.results29, go_sem, d0, d1]

end Go.Proofs.Ytpmnpaannbhoeaa
