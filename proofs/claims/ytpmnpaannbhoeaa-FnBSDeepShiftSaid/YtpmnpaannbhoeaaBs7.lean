/- The laws' own helpers: lists alike, bits of plain data. -/
import Derived.Test.YtpmnpaannbhoeaaBs6
namespace Go.Proofs.Ytpmnpaannbhoeaa
open Go.RowKit

theorem Nums.cell {K : IntKind} {w : World} {so : Option Addr} {n cp : Nat} {xs : List Nat} (h : Nums K w (.slice so n cp) xs) (hn : 0 < n) :
    n = xs.length ∧ ∃ b o, so = some ⟨b, o, none⟩ ∧ ∀ i, i < n → w.cell? ⟨b, o + i, none⟩ = some (.int K ((xs.getD i 0 : Nat) : Int)) := by
  rcases h with ⟨h1, h2⟩ | ⟨b, o, c, h1, h2, h3⟩
  · simp only [Value.slice.injEq] at h1; omega
  · simp only [Value.slice.injEq] at h1
    obtain ⟨rfl, rfl, rfl⟩ := h1
    exact ⟨rfl, b, o, rfl, h3⟩
theorem Nums.len {K : IntKind} {w : World} {so : Option Addr} {n cp : Nat} {xs : List Nat} (h : Nums K w (.slice so n cp) xs) : n = xs.length := by
  rcases h with ⟨h1, h2⟩ | ⟨b, o, c, h1, h2, h3⟩
  · simp only [Value.slice.injEq] at h1; rw [h2]; exact h1.2.1
  · simp only [Value.slice.injEq] at h1; exact h1.2.1
theorem take_eq_step {xs ys : List Nat} {k : Nat} (h : xs.take k = ys.take k) (hx : k < xs.length) (hy : k < ys.length) :
    xs.take (k + 1) = ys.take (k + 1) ↔ xs.getD k 0 = ys.getD k 0 := by
  rw [List.take_succ_eq_append_getElem hx, List.take_succ_eq_append_getElem hy, h, show xs.getD k 0 = xs[k] by simp [hx], show ys.getD k 0 = ys[k] by simp [hy]]
  constructor
  · intro e; simpa using List.append_cancel_left e
  · intro e; rw [e]

set_option maxHeartbeats 400000 in
theorem bsList_any {w : World} {a b : Value} {xs ys : List Nat} (ha : Nums .u64 w a xs) (hb : Nums .u64 w b ys) (hx : xs.length ≤ 1000000) :
    Calls Try.prog 52 #[a, b] w fun e w' => e = .returned (.bool (decide (xs = ys))) ∧ ∃ k, w' = w.drewN k := by
  obtain ⟨so, cp, rfl⟩ := ha.shape
  obtain ⟨so', cp', rfl⟩ := hb.shape
  have HA := Lib.hid ha
  have HB := Lib.hid hb
  clear ha hb
  by_cases hl : xs.length = ys.length
  · have HL := Lib.hid hl
    rw [← hl]
    rw [← hl] at HB
    clear hl
    have HX : Hid (∃ n, n = xs.length) := ⟨_, rfl⟩
    obtain ⟨n, hn⟩ := HX.out
    have HN := Lib.hid hn
    rw [← hn] at HA HB hx
    rw [← hn]
    clear hn HX
    go_enter Try.func52, Try.ntmps52
    go_wp2_with fail
    go_loopw [5] (fun iv wr => ∃ (k d : Nat), k ≤ n ∧ iv = .int .i64 k ∧ wr = w.drewN d ∧ Hid (xs.take k = ys.take k)) (fun iv _ => n - (intOf iv).toNat)
    case atStart => exact ⟨0, 0, by omega, rfl, rfl, by simp [Hid]⟩
    case round =>
      obtain ⟨k, d, hk, rfl, rfl, hE⟩ := hrel
      by_cases hkn : k < n
      · obtain ⟨b1, o1, hs1, hc1⟩ := (HA.out.cell (by omega)).2
        obtain ⟨b2, o2, hs2, hc2⟩ := (HB.out.cell (by omega)).2
        subst hs1 hs2
        have c1 := hc1 k hkn
        have c2 := hc2 k hkn
        clear hc1 hc2
        have HT := Lib.hid (take_eq_step hE.out (by rw [← HN.out]; exact hkn) (by rw [← HL.out, ← HN.out]; exact hkn))
        generalize xs.getD k 0 = x at *
        generalize ys.getD k 0 = y at *
        go_wp2_with fail
        go_quiet (fail)
        go_wp2_with fail
        · have hne : (x : Int) ≠ (y : Int) := bne_iff_ne.1 (by assumption)
          go_ret
          refine ⟨retB ?_, d + nq, World.drewN_drewN w d nq⟩
          symm
          apply decide_eq_false
          intro e
          rw [e] at HT
          exact hne (by rw [HT.out.1 rfl])
        · have heq : (x : Int) = (y : Int) := by
            have h0 : ((x : Int) != (y : Int)) = false := by assumption
            simpa using h0
          have heq' : x = y := by exact_mod_cast heq
          go_roundw
          case rel => exact ⟨k + 1, d + nq, by omega, by go_num, rfl, HT.out.2 heq'⟩
          case measure => simp [intOf]; omega
      · have hkk : k = n := by omega
        have HK := Lib.hid hkk
        clear hkk
        go_wp2_with fail
        go_ret
        refine ⟨retB ?_, d, rfl⟩
        have := hE.out
        rw [HK.out, HN.out, List.take_length, HL.out, List.take_length] at this
        simp [this]
  · have hne : xs ≠ ys := fun e => hl (by rw [e])
    have hbf : ((xs.length : Int) != (ys.length : Int)) = true := by simp; omega
    have HNE := Lib.hid hne
    clear hne
    go_enter Try.func52, Try.ntmps52
    go_wp2_with fail
    go_ret
    exact ⟨retB (by simp [HNE.out]), 0, rfl⟩

theorem filter_len_le (len : Nat) (S : Nat → Bool) : ((List.range len).filter S).length ≤ len := Nat.le_trans (List.length_filter_le _ _) (by simp)

set_option maxHeartbeats 400000 in
theorem alike_any {w : World} {a b : Value} {la lb : Nat} {S S' : Nat → Bool} (ha : IsBits w a la S) (hb : IsBits w b lb S') :
    Calls Try.prog 18 #[a, b] w fun e w' => e = .returned (.bool (decide ((List.range la).filter S = (List.range lb).filter S'))) ∧ Below w.heap.size w w' := by
  obtain ⟨sa, rfl, na, la2, oa⟩ := ha
  obtain ⟨sb, rfl, nb, lb2, ob⟩ := hb
  obtain ⟨so, cp, rfl⟩ := na.shape
  obtain ⟨so', cp', rfl⟩ := nb.shape
  have HA := Lib.hid na
  have HB := Lib.hid nb
  have HL := Lib.hid (filter_len_le la S)
  clear oa ob na nb
  generalize (List.range la).filter S = xs at *
  generalize (List.range lb).filter S' = ys at *
  go_enter Try.func18, Try.ntmps18
  go_wp2_with fail
  refine (bsList_any (HA.out.same (((Below.refl _ _).alloc (Nat.le_refl _) _).alloc (by simp) _)) (HB.out.same (((Below.refl _ _).alloc (Nat.le_refl _) _).alloc (by simp) _)) (by have := HL.out; omega)).mono ?_
  rintro e w1 ⟨rfl, d, rfl⟩
  go_wp2_with fail
  go_ret
  exact ⟨rfl, below_drewN (((Below.refl _ _).alloc (Nat.le_refl _) _).alloc (by simp) _) d⟩

set_option maxHeartbeats 400000 in
theorem zzFits3_any (w : World) (l : Int) (so : Option Addr) (n cp : Nat) (hn : n ≤ 2147483647) :
    Calls Try.prog 12 #[.agg #[.int .u64 l, .slice so n cp]] w fun e w' => e = .returned (.bool true) ∧ Below w.heap.size w w' := by
  go_enter Try.func12, Try.ntmps12
  go_wp2_with fail
  go_ret
  exact ⟨rfl, (Below.refl _ _).alloc (Nat.le_refl _) _⟩
set_option maxHeartbeats 400000 in
theorem zzFits3_no (w : World) (l : Int) (so : Option Addr) (n cp : Nat) (hn : 2147483647 < n) :
    Calls Try.prog 12 #[.agg #[.int .u64 l, .slice so n cp]] w fun e w' => e = .returned (.bool false) ∧ Below w.heap.size w w' := by
  go_enter Try.func12, Try.ntmps12
  go_wp2_with fail
  go_ret
  exact ⟨rfl, (Below.refl _ _).alloc (Nat.le_refl _) _⟩

/-- A row of bools: its cells hold what f tells. -/
def Bd (w : World) (b c : Nat) (f : Nat → Bool) : Prop := ∃ (vs : Array Value) (T : TypeId), Blk w b vs T ∧ vs.size = c ∧ ∀ i, i < c → vs[i]? = some (.bool (f i))
section
variable {w w' : World} {b c : Nat} {f : Nat → Bool}
theorem Bd.lt (h : Bd w b c f) : b < w.heap.size := by obtain ⟨_, _, h, _⟩ := h; exact h.lt
theorem Bd.cell (h : Bd w b c f) {i : Nat} (hi : i < c) : w.cell? ⟨b, i, none⟩ = some (.bool (f i)) := by
  obtain ⟨_, _, h, _, h2⟩ := h; exact h.cell (h2 i hi)
theorem Bd.free (h : Bd w b c f) (i : Nat) : w.frozen? ⟨b, i, none⟩ = false := by obtain ⟨_, _, h, _⟩ := h; exact h.free i
theorem Bd.set (h : Bd w b c f) (i : Nat) (v : Bool) : Bd (w.setCell ⟨b, i, none⟩ (.bool v)) b c (fun j => if j = i then v else f j) := by
  obtain ⟨vs, T, h, h1, h2⟩ := h
  refine ⟨_, T, h.set i _, by simpa using h1, fun j hj => ?_⟩
  rw [Array.getElem?_setIfInBounds]
  by_cases e : i = j
  · subst e; simp [h1, hj]
  · rw [if_neg e, h2 j hj]
    show _ = some (Value.bool (if j = i then v else f j))
    rw [if_neg (show ¬ j = i from fun e' => e e'.symm)]
theorem Bd.below {B : Nat} (h : Bd w b c f) (ho : Below B w w') (hb : b < B) : Bd w' b c f := by obtain ⟨vs, T, h, r⟩ := h; exact ⟨vs, T, h.below ho hb, r⟩
end

set_option maxHeartbeats 1000000 in
theorem bsMake_any {w : World} {b n : Nat} {f : Nat → Bool} (h : Bd w b n f) (hn : n ≤ 100000) (hf : ∀ j, n ≤ j → f j = false) :
    Calls Try.prog 48 #[.slice (some ⟨b, 0, none⟩) n n] w fun e w' => ∃ v, e = .returned v ∧ (∀ W : World, (∀ k, w.heap.size ≤ k → k < w'.heap.size → W.heap[k]? = w'.heap[k]?) → IsBits W v n f) ∧ Below w.heap.size w w' := by
  obtain ⟨i0, hi, hz0, hz1, hz2⟩ := info_parts info22
  have HI : Hid (Try.prog.info? 22 = some i0 ∧ i0.zero = some (.int .u64 0) ∧ i0.size = 1 ∧ i0.bytes = 8) := ⟨hi, hz0, hz1, hz2⟩
  clear hi hz0 hz1 hz2
  have H := Lib.hid h
  have HF := Lib.hid hf
  clear h hf
  go_enter Try.func48, Try.ntmps48
  go_wp2_with fail
  go_loopw [4] (fun iv wr => ∃ (k : Nat) (v : Value), k ≤ n ∧ iv = .int .i64 k ∧ Hid (Blk wr w.heap.size #[.int .u64 0, .slice none 0 0] 25 ∧ Blk wr (w.heap.size + 1) #[.int .u64 n, v] 25 ∧
      wr.ownsRow (w.heap.size + 2) 22 1 v ((List.range k).filter f).length (((List.range k).filter f).map fun n : Nat => Value.int .u64 (n : Int)) ∧ Below w.heap.size w wr)) (fun iv _ => n - (intOf iv).toNat)
  case atStart =>
    refine ⟨0, _, by omega, rfl, (Blk.new _ _ _).alloc _, ?_, World.ownsRow_nil _ _ _ _, ((Below.refl _ _).alloc (Nat.le_refl _) _).alloc (by simp) _⟩
    have := Blk.new (w.alloc (Obj.cells #[Value.int IntKind.u64 0, Value.slice none 0 0] 25)) #[Value.int IntKind.u64 ↑n, Value.slice none 0 0] 25
    simp at this
    exact this
  case round =>
    obtain ⟨k, v, hk, rfl, hR⟩ := hrel
    have HR2 : Hid (Blk wr w.heap.size #[.int .u64 0, .slice none 0 0] 25 ∧ Blk wr (w.heap.size + 1) #[.int .u64 n, v] 25 ∧
      wr.ownsRow (w.heap.size + 2) 22 1 v ((List.range k).filter f).length (((List.range k).filter f).map fun n : Nat => Value.int .u64 (n : Int)) ∧ Below w.heap.size w wr) := hR
    clear hR
    have g0 : wr.cell? ⟨w.heap.size + 1, 0, none⟩ = some (.int .u64 n) := HR2.out.2.1.cell rfl
    have g1 : wr.cell? ⟨w.heap.size + 1, 1, none⟩ = some v := HR2.out.2.1.cell rfl
    have g2 := HR2.out.2.1.free 1
    have r0 : wr.cell? ⟨w.heap.size, 0, none⟩ = some (.int .u64 0) := HR2.out.1.cell rfl
    have r1 : wr.cell? ⟨w.heap.size, 1, none⟩ = some (.slice none 0 0) := HR2.out.1.cell rfl
    have r2 := HR2.out.1.free 0
    have r3 := HR2.out.1.free 1
    have hsz := HR2.out.2.1.lt
    by_cases hkl : k < n
    · have c0 := (H.out.below HR2.out.2.2.2 H.out.lt).cell hkl
      have HFS := Lib.hid (filter_succ f k)
      cases hfk : f k
      · have HK := Lib.hid hfk
        rw [hfk] at c0
        clear hfk
        go_wp2_with fail
        go_roundw
        case rel =>
          refine ⟨k + 1, v, by omega, by go_num, HR2.out.1, HR2.out.2.1, ?_, HR2.out.2.2.2⟩
          rw [HFS.out, HK.out]
          simpa using HR2.out.2.2.1
        case measure => simp [intOf]; omega
      · have HK := Lib.hid hfk
        rw [hfk] at c0
        clear hfk
        have hlen : ((List.range k).filter f).length ≤ 100000 := Nat.le_trans (List.length_filter_le _ _) (by simp; omega)
        generalize hL : (List.range k).filter f = L at *
        have HL := Lib.hid hL
        clear hL r0 r1 r2 r3
        go_wp2_with (at_builtin; go_must (refine wpList_append_own_at _ rfl _ _ 23 rfl (w.heap.size + 2) 22 i0 (.int .u64 0) 1 8 Try.underlying23 HI.out.1 HI.out.2.1 HI.out.2.2.1 HI.out.2.2.2 rfl (by decide) _ _ _ rfl (HR2.out.2.2.1.alloc _) ⟨wr.heap.size, 0, none⟩ 1 1 [.int .u64 k] rfl rfl ?c1 ?c2 ?c3 ?c4 ?c5 ?_))
        case c1 =>
          intro j u hj
          match j, hj with
          | 0, hj => simp at hj; subst hj; simp [Addr.add]
        case c2 => intro u hu; simp at hu; subst hu; rfl
        case c3 => unfold maxLen; omega
        case c4 => omega
        case c5 => simp; omega
        intro v' w3 hown' hgrow _ hblk
        obtain ⟨so, cp, rfl⟩ := own_shape hown'
        have hba : Below (w.heap.size + 2) wr w3 := own_grown HR2.out.2.2.1 hgrow (by omega)
        have q1 := HR2.out.1.below hba (by omega)
        have q2 := HR2.out.2.1.below hba (by omega)
        have q4 := HR2.out.2.2.2.trans (hba.mono (by omega))
        have e1 := q2.free 1
        have e2 : w3.cell? ⟨w.heap.size + 1, 1, none⟩ = some v := q2.cell rfl
        have HQ : Hid (Blk w3 w.heap.size #[.int .u64 0, .slice none 0 0] 25 ∧ Blk w3 (w.heap.size + 1) #[.int .u64 n, v] 25 ∧
            w3.ownsRow (w.heap.size + 2) 22 1 (.slice so (L.length + 1) cp) (L.length + 1) ((L.map fun n : Nat => Value.int .u64 (n : Int)) ++ [Value.int .u64 k]) ∧ Below w.heap.size w w3) := ⟨q1, q2, hown', q4⟩
        clear hba q1 q2 q4 hown' hgrow hblk g0 g1 g2 hsz c0
        go_wp2_with fail
        go_roundw
        case rel =>
          refine ⟨k + 1, _, by omega, by go_num, HQ.out.1.other (by simp) _, HQ.out.2.1.set 1 _, ?_, HQ.out.2.2.2.setCell (by simp) _⟩
          rw [HFS.out, HK.out]
          simpa using ownsRow_setCell_below HQ.out.2.2.1 (a := ⟨w.heap.size + 1, 1, none⟩) (by simp) _
        case measure => simp [intOf]; omega
    · have hkx : k = n := by omega
      have HK := Lib.hid hkx
      clear hkx
      obtain ⟨so, cp, rfl⟩ := own_shape HR2.out.2.2.1
      have HL : Hid (∀ (x y : Value) (W : World), (∀ k, w.heap.size ≤ k → k < (((wr.setCell ⟨w.heap.size, 0, none⟩ x).setCell ⟨w.heap.size, 1, none⟩ y)).heap.size → W.heap[k]? = (((wr.setCell ⟨w.heap.size, 0, none⟩ x).setCell ⟨w.heap.size, 1, none⟩ y)).heap[k]?) →
          Nums .u64 W (.slice so ((List.range k).filter f).length cp) ((List.range k).filter f)) := fun x y W hW =>
        Nums.of_own (own_same (ownsRow_setCell_below (ownsRow_setCell_below HR2.out.2.2.1 (by simp) x) (by simp) y) (fun k h1 h2 => hW k (by omega) h2))
      generalize ((List.range k).filter f).length = m at *
      go_wp2_with fail
      have s0 : Blk ((wr.setCell ⟨w.heap.size, 0, none⟩ (.int .u64 n)).setCell ⟨w.heap.size, 1, none⟩ (.slice so m cp)) w.heap.size #[.int .u64 n, .slice so m cp] 25 := (HR2.out.1.set 0 _).set 1 _
      have hbl : Below w.heap.size w ((wr.setCell ⟨w.heap.size, 0, none⟩ (.int .u64 n)).setCell ⟨w.heap.size, 1, none⟩ (.slice so m cp)) := (HR2.out.2.2.2.setCell (Nat.le_refl _) _).setCell (Nat.le_refl _) _
      have d0 := s0.cell (i := 0) rfl
      have d1 := s0.cell (i := 1) rfl
      refine bodyPost_ret (v := .agg #[.int .u64 n, .slice so m cp]) ?_ rfl ⟨_, rfl, fun W hW => ⟨_, rfl, ?_, hn, HF.out⟩, hbl⟩
      · simp at d0 d1
        simp [results, Try.results48, go_sem, d0, d1]
      · rw [← HK.out]
        exact HL.out _ _ W hW

theorem info4 : (Try.prog.info? 4).map (fun i => (i.zero, i.size, i.bytes)) = some (some (.bool false), 1, 1) := by kernel_rfl
theorem made_bools (n : Nat) : ∀ i, i < n → (madeCells #[Value.bool false] n)[i]? = some (.bool false) := by
  intro i hi
  simp [madeCells, hi, Nat.mod_one]
theorem make_bool (n : Nat) (w : World) (hc : n ≤ 1000000) :
    (Instr.makeSlice 50 (.int .u64 (n : Int)) (.int .u64 (n : Int))).run Try.prog w = .ok (.slice (some ⟨w.heap.size, 0, none⟩) n n) (w.alloc (.cells (madeCells #[.bool false] n) 4)) := by
  obtain ⟨i0, hi, hz0, hz1, hz2⟩ := info_parts info4
  have h := run_make (P := Try.prog) w 50 4 i0 (.bool false) Try.underlying50 hi hz0 .u64 .u64 n n (by omega) (by omega) (by rw [hz2]; omega) (by omega)
  rw [h, hz1]
  simp [Value.cells]

set_option maxHeartbeats 1000000 in
theorem bsBits_any {w : World} {l : Nat} {so : Option Addr} {n cp : Nat} {xs : List Nat} (hx : 0 < n → Nums .u64 w (.slice so n cp) xs) (hn : n ≤ 2147483647) (hl : l < 18446744073709551616) :
    Calls Try.prog 14 #[.agg #[.int .u64 l, .slice so n cp]] w fun e w' => ∃ S, Gives w (l % 401) S e w' := by
  have hmk := fun w => make_bool (l % 401) w (by omega)
  have HX := Lib.hid hx
  have HL := Lib.hid hl
  clear hx hl
  have hm : l % 401 < 401 := Nat.mod_lt _ (by decide)
  have hcast : (l : Int) % 401 = ((l % 401 : Nat) : Int) := rfl
  generalize l % 401 = m at *
  go_enter Try.func14, Try.ntmps14
  go_wp2_with fail
  clear hcast hmk
  go_loopw [4] (fun iv wr => ∃ k : Nat, k ≤ n ∧ iv = .int .i64 k ∧ Hid (∃ f, Bd wr (w.heap.size + 1 + 1) m f ∧ (∀ j, m ≤ j → f j = false) ∧ Blk wr w.heap.size #[.int .u64 l, .slice so n cp] 25 ∧
      Blk wr (w.heap.size + 1) #[.int .u64 0, .slice none 0 0] 25 ∧ Below w.heap.size w wr)) (fun iv _ => n - (intOf iv).toNat)
  case atStart =>
    refine ⟨0, by omega, rfl, fun _ => false, ⟨_, 4, ?_, size_madeCells _ _, made_bools _⟩, fun _ _ => rfl, ((Blk.new _ _ _).alloc _).alloc _, ?_, (((Below.refl _ _).alloc (Nat.le_refl _) _).alloc (by simp) _).alloc (by simp; omega) _⟩
    · have := Blk.new ((w.alloc (Obj.cells #[Value.int IntKind.u64 ↑l, Value.slice so n cp] 25)).alloc (Obj.cells #[Value.int IntKind.u64 0, Value.slice none 0 0] 25)) (madeCells #[Value.bool false] m) 4
      simp at this
      exact this
    · have := Blk.new (w.alloc (Obj.cells #[Value.int IntKind.u64 ↑l, Value.slice so n cp] 25)) #[Value.int IntKind.u64 0, Value.slice none 0 0] 25
      simp at this
      exact this.alloc _
  case round =>
    obtain ⟨k, hk, rfl, hR⟩ := hrel
    obtain ⟨f, hR⟩ := hR
    have HR : Hid (Bd wr (w.heap.size + 1 + 1) m f ∧ (∀ j, m ≤ j → f j = false) ∧ Blk wr w.heap.size #[.int .u64 l, .slice so n cp] 25 ∧
      Blk wr (w.heap.size + 1) #[.int .u64 0, .slice none 0 0] 25 ∧ Below w.heap.size w wr) := hR
    clear hR
    have g0 : wr.cell? ⟨w.heap.size, 0, none⟩ = some (.int .u64 l) := HR.out.2.2.1.cell rfl
    have g1 : wr.cell? ⟨w.heap.size, 1, none⟩ = some (.slice so n cp) := HR.out.2.2.1.cell rfl
    by_cases hall : k < n ∧ k < 1000 ∧ 0 < m
    · obtain ⟨h1, h2, h3⟩ := hall
      obtain ⟨b1, o1, hs1, hc1⟩ := ((HX.out (by omega)).cell (by omega)).2
      subst hs1
      have c1 := (HR.out.2.2.2.2.cell (cell_lt (hc1 k h1))).trans (hc1 k h1)
      clear hc1
      generalize xs.getD k 0 = x at *
      have hxm : x % m < m := Nat.mod_lt _ h3
      have c2 := HR.out.1.cell hxm
      have f2 := HR.out.1.free (x % m)
      have t1 : (0 : Int) ≤ (x : Int) % (m : Int) := Int.emod_nonneg _ (by omega)
      have t2 : (x : Int) % (m : Int) < (m : Int) := Int.emod_lt_of_pos _ (by omega)
      have t3 : ((x : Int) % (m : Int)).toNat = x % m := by rw [← Int.natCast_emod]; rfl
      have t4 : decide ((k : Int) < 1000) = true := by apply decide_eq_true; omega
      have t5 : decide (k < n) = true := by apply decide_eq_true; omega
      go_wp2_with fail
      go_roundw
      case rel => exact ⟨k + 1, by omega, by go_num, _, HR.out.1.set (x % m) true, fun j hj => by show (if j = x % m then true else f j) = false; rw [if_neg (by omega)]; exact HR.out.2.1 j hj, HR.out.2.2.1.other (by simp; omega) _, HR.out.2.2.2.1.other (by simp) _, HR.out.2.2.2.2.setCell (by simp; omega) _⟩
      case measure => simp [intOf]; omega
    · have hcases : ¬ k < n ∨ (k < n ∧ ¬ k < 1000) ∨ (k < n ∧ k < 1000 ∧ ¬ 0 < m) := by omega
      rcases hcases with h1 | ⟨h1, h2⟩ | ⟨h1, h2, h3⟩
      · have t5 : decide (k < n) = false := by apply decide_eq_false; omega
        clear hall
        go_wp2_with fail
        refine (bsMake_any HR.out.1 (by omega) HR.out.2.1).mono ?_
        rintro e w3 ⟨v', rfl, hv, hb⟩
        obtain ⟨so', n', cp', rfl⟩ := (hv w3 (fun _ _ _ => rfl)).shape
        have hk' := HR.out.2.2.2.1.below hb HR.out.2.2.2.1.lt
        have HE := Lib.hid (gives_end (w := w) (by omega) HR.out.2.2.2.1.lt hk' hv (HR.out.2.2.2.2.trans (hb.mono HR.out.2.2.2.2.size)))
        have e0 : w3.cell? ⟨w.heap.size + 1, 0, none⟩ = some (.int .u64 0) := hk'.cell rfl
        have e1 : w3.cell? ⟨w.heap.size + 1, 1, none⟩ = some (.slice none 0 0) := hk'.cell rfl
        have f0 := hk'.free 0
        have f1 := hk'.free 1
        clear hk' hv hb
        go_wp2_with fail
        have d0 := HE.out.1.cell (i := 0) rfl
        have d1 := HE.out.1.cell (i := 1) rfl
        refine bodyPost_ret (v := .agg #[.int .u64 m, .slice so' n' cp']) ?_ rfl ⟨f, HE.out.2⟩
        simp at d0 d1
        simp [results, Try.results14, go_sem, d0, d1]
      · have t5 : decide (k < n) = true := by apply decide_eq_true; omega
        have t4 : decide ((k : Int) < 1000) = false := by apply decide_eq_false; omega
        clear hall
        go_wp2_with fail
        refine (bsMake_any HR.out.1 (by omega) HR.out.2.1).mono ?_
        rintro e w3 ⟨v', rfl, hv, hb⟩
        obtain ⟨so', n', cp', rfl⟩ := (hv w3 (fun _ _ _ => rfl)).shape
        have hk' := HR.out.2.2.2.1.below hb HR.out.2.2.2.1.lt
        have HE := Lib.hid (gives_end (w := w) (by omega) HR.out.2.2.2.1.lt hk' hv (HR.out.2.2.2.2.trans (hb.mono HR.out.2.2.2.2.size)))
        have e0 : w3.cell? ⟨w.heap.size + 1, 0, none⟩ = some (.int .u64 0) := hk'.cell rfl
        have e1 : w3.cell? ⟨w.heap.size + 1, 1, none⟩ = some (.slice none 0 0) := hk'.cell rfl
        have f0 := hk'.free 0
        have f1 := hk'.free 1
        clear hk' hv hb
        go_wp2_with fail
        have d0 := HE.out.1.cell (i := 0) rfl
        have d1 := HE.out.1.cell (i := 1) rfl
        refine bodyPost_ret (v := .agg #[.int .u64 m, .slice so' n' cp']) ?_ rfl ⟨f, HE.out.2⟩
        simp at d0 d1
        simp [results, Try.results14, go_sem, d0, d1]
      · have t5 : decide (k < n) = true := by apply decide_eq_true; omega
        have t4 : decide ((k : Int) < 1000) = true := by apply decide_eq_true; omega
        have t6 : decide ((0 : Int) < (m : Int)) = false := by apply decide_eq_false; omega
        have t7 : decide (0 < m) = false := by apply decide_eq_false; omega
        clear hall
        go_wp2_with fail
        refine (bsMake_any HR.out.1 (by omega) HR.out.2.1).mono ?_
        rintro e w3 ⟨v', rfl, hv, hb⟩
        obtain ⟨so', n', cp', rfl⟩ := (hv w3 (fun _ _ _ => rfl)).shape
        have hk' := HR.out.2.2.2.1.below hb HR.out.2.2.2.1.lt
        have HE := Lib.hid (gives_end (w := w) (by omega) HR.out.2.2.2.1.lt hk' hv (HR.out.2.2.2.2.trans (hb.mono HR.out.2.2.2.2.size)))
        have e0 : w3.cell? ⟨w.heap.size + 1, 0, none⟩ = some (.int .u64 0) := hk'.cell rfl
        have e1 : w3.cell? ⟨w.heap.size + 1, 1, none⟩ = some (.slice none 0 0) := hk'.cell rfl
        have f0 := hk'.free 0
        have f1 := hk'.free 1
        clear hk' hv hb
        go_wp2_with fail
        have d0 := HE.out.1.cell (i := 0) rfl
        have d1 := HE.out.1.cell (i := 1) rfl
        refine bodyPost_ret (v := .agg #[.int .u64 m, .slice so' n' cp']) ?_ rfl ⟨f, HE.out.2⟩
        simp at d0 d1
        simp [results, Try.results14, go_sem, d0, d1]
end Go.Proofs.Ytpmnpaannbhoeaa
