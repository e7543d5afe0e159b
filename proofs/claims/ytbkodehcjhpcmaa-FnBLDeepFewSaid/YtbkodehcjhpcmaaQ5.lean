/- Lists of numbers in memory; plain data of a bitset; making a bitset of it. -/
import Derived.Test.YtbkodehcjhpcmaaQ4
import Derived.Maps.AppendAt
namespace Go.Proofs.Ytbkodehcjhpcmaa.Q
open Go.RowKit

/-- A slice that reads as a list of numbers. -/
def Nums (K : IntKind) (w : World) (sl : Value) (xs : List Nat) : Prop :=
  (sl = .slice none 0 0 ∧ xs = []) ∨ ∃ b o c, sl = .slice (some ⟨b, o, none⟩) xs.length c ∧ xs.length ≤ c ∧ ∀ i, i < xs.length → w.cell? ⟨b, o + i, none⟩ = some (.int K ((xs.getD i 0 : Nat) : Int))
theorem cell_lt {w : World} {a : Addr} {v : Value} (h : w.cell? a = some v) : a.block < w.heap.size := by
  rcases Nat.lt_or_ge a.block w.heap.size with h' | h'
  · exact h'
  · simp [World.cell?, Array.getElem?_eq_none h'] at h
theorem Nums.same {K : IntKind} {w w' : World} {sl : Value} {xs : List Nat} (h : Nums K w sl xs) (hb : Below w.heap.size w w') : Nums K w' sl xs := by
  rcases h with h | ⟨b, o, c, h1, h2, h3⟩
  · exact Or.inl h
  · exact Or.inr ⟨b, o, c, h1, h2, fun i hi => (hb.cell (cell_lt (h3 i hi))).trans (h3 i hi)⟩
theorem Nums.of_own {K : IntKind} {w : World} {base : Nat} {e : TypeId} {v : Value} {xs : List Nat} (h : w.ownsRow base e 1 v xs.length (xs.map fun n : Nat => Value.int K (n : Int))) : Nums K w v xs := by
  obtain ⟨h1, h2⟩ := h
  rcases h2 with ⟨h2, h3⟩ | ⟨g, cap, cur, hv, hg, hh, hn, hm, hs, ht⟩
  · exact Or.inl ⟨h2, List.length_eq_zero_iff.1 h3⟩
  · refine Or.inr ⟨g, 0, cap, hv, hn, fun i hi => ?_⟩
    have hc : cur[i]? = some (.int K ((xs.getD i 0 : Nat) : Int)) := by
      have h3 : (cur.toList.take (xs.length * 1))[i]? = (xs.map fun n : Nat => Value.int K (n : Int))[i]? := by rw [ht]
      rw [List.getElem?_take, if_pos (by omega), Array.getElem?_toList] at h3
      rw [h3]
      simp [hi]
    have : Blk w g cur e := hh
    rw [Nat.zero_add]
    exact this.cell hc

/-- Plain data of a bitset of so many bits, of which S are set. -/
def IsBits (w : World) (v : Value) (len : Nat) (S : Nat → Bool) : Prop :=
  ∃ sl, v = .agg #[.int .u64 len, sl] ∧ Nums .u64 w sl ((List.range len).filter S) ∧ len ≤ 100000 ∧ ∀ j, len ≤ j → S j = false
theorem IsBits.same {w w' : World} {v : Value} {len : Nat} {S : Nat → Bool} (h : IsBits w v len S) (hb : Below w.heap.size w w') : IsBits w' v len S := by
  obtain ⟨sl, h1, h2, h3⟩ := h
  exact ⟨sl, h1, h2.same hb, h3⟩

set_option maxRecDepth 100000 in
set_option maxHeartbeats 400000 in
theorem set64_any {w : World} {v : Value} {len : Nat} {S : Nat → Bool} (h : IsBits w v len S) :
    Calls Try.prog 30 #[v] w fun e w' => ∃ p, e = .returned (.pointer (some ⟨p, 0, none⟩)) ∧ Bs w' w.heap.size p len S ∧ Below w.heap.size w w' := by
  obtain ⟨sl, rfl, hn, hl, hS⟩ := h
  obtain ⟨xs, hxs⟩ : ∃ xs, xs = (List.range len).filter S := ⟨_, rfl⟩
  rw [← hxs] at hn
  have hx : ∀ x ∈ xs, x < len := by
    intro x hx
    rw [hxs, List.mem_filter, List.mem_range] at hx
    exact hx.1
  have hmem : ∀ j, decide (j ∈ xs) = S j := by
    intro j
    rw [hxs]
    by_cases hj : j < len
    · simp [List.mem_filter, hj]
    · simp [List.mem_filter, hj, hS j (by omega)]
  have hlen : xs.length ≤ 100000 := by
    rw [hxs]; exact Nat.le_trans (List.length_filter_le _ _) (by simpa using hl)
  have HM := Lib.hid hmem
  have HX := Lib.hid hx
  have HN := Lib.hid hn
  clear hmem hx hxs hS
  obtain ⟨so, cp, hsl⟩ : ∃ so cp, sl = .slice so xs.length cp := by
    rcases hn with ⟨h1, h2⟩ | ⟨b, o, c, h1, _⟩
    · exact ⟨none, 0, by rw [h1, h2]; rfl⟩
    · exact ⟨_, _, h1⟩
  have HSL : Hid (sl = .slice so xs.length cp) := hsl
  subst hsl
  clear hn
  go_enter Try.func30, Try.ntmps30
  go_wp2_with fail
  refine (new_any _ _ (by omega)).mono ?_
  rintro e w1 ⟨p, b, rfl, hB, hO, hp, hb⟩
  have HO := Lib.hid hO
  have HB : Hid (Bs w1 w.heap.size p len fun j => decide (j ∈ xs.take 0)) := by
    simp at hp hb
    exact ⟨b, _, _, _, hB, by omega, by omega, by unfold wn; omega, hl, fun j => by simp [bit]⟩
  have k1 : w1.cell? ⟨w.heap.size, 0, none⟩ = some (.int .u64 len) := (HO.out.nil.cell (by simp)).trans (by simp)
  have k2 : w1.cell? ⟨w.heap.size, 1, none⟩ = some (.slice so xs.length cp) := (HO.out.nil.cell (by simp)).trans (by simp)
  clear hB hO hp hb
  go_wp2_with fail
  have hb01 : Below w.heap.size w w1 := ((Below.refl _ _).alloc (Nat.le_refl _) _).trans (HO.out.nil.mono (by simp))
  have HW := Lib.hid hb01
  clear hb01
  go_loopw [5, 12] (fun _ kv wr => ∃ k : Nat, k ≤ xs.length ∧ kv = .int .i64 k ∧ Hid (Bs wr w.heap.size p len (fun j => decide (j ∈ xs.take k)) ∧ Below w.heap.size w wr)) (fun _ kv _ => xs.length - (intOf kv).toNat)
  case atStart => exact ⟨0, by omega, rfl, HB.out, HW.out⟩
  case round =>
    obtain ⟨k, hk, rfl, hR⟩ := hrel
    have HR : Hid (Bs wr w.heap.size p len (fun j => decide (j ∈ xs.take k)) ∧ Below w.heap.size w wr) := hR
    clear hR
    by_cases hkl : k < xs.length
    · have hxk := HX.out (xs.getD k 0) (by rw [List.getD_eq_getElem?_getD, List.getElem?_eq_getElem hkl]; simp)
      have hstep : ∀ j, decide (j ∈ xs.take (k + 1)) = (decide (j ∈ xs.take k) || decide (xs.getD k 0 = j)) := by
        intro j
        rw [List.take_succ_eq_append_getElem hkl, show xs.getD k 0 = xs[k] by simp [hkl]]
        simp only [List.mem_append, List.mem_singleton, Bool.decide_or, eq_comm (a := j)]
      have HT := Lib.hid hstep
      clear hstep
      rcases HN.out with ⟨h1, h2⟩ | ⟨b, o, c, h1, h2, h3⟩
      · rw [h2] at hkl; exact absurd hkl (by simp)
      · simp only [Value.slice.injEq] at h1
        obtain ⟨rfl, _, rfl⟩ := h1
        have hlt := cell_lt (h3 k hkl)
        have c0 : wr.cell? ⟨b, o + k, none⟩ = some (.int .u64 ((xs.getD k 0 : Nat) : Int)) := (HR.out.2.cell hlt).trans (h3 k hkl)
        obtain ⟨x, hxe⟩ : ∃ x, x = xs.getD k 0 := ⟨_, rfl⟩
        rw [← hxe] at c0 hxk
        have HXE := Lib.hid hxe
        clear h2 h3 hxe
        go_wp2_with fail
        refine (set_any HR.out.1 x (by omega) HR.out.2.size).mono ?_
        rintro e w2 ⟨rfl, g1, g2⟩
        have HG : Hid (Bs w2 w.heap.size p len (fun j => decide (j ∈ xs.take (k + 1))) ∧ Below w.heap.size w w2) := by
          rw [Nat.max_eq_left (by omega)] at g1
          exact ⟨g1.congr fun j => by rw [HT.out, HXE.out], HR.out.2.trans g2⟩
        clear g1 g2
        go_wp2_with fail
        go_roundw
        case rel => exact ⟨k + 1, by omega, by go_num, HG.out⟩
        case measure => simp [intOf]; omega
    · have hkx : k = xs.length := by omega
      have HK := Lib.hid hkx
      clear hkx
      go_wp2_with fail
      go_ret
      refine ⟨p, rfl, HR.out.1.congr fun j => ?_, HR.out.2⟩
      rw [HK.out, List.take_length, HM.out]

theorem info22 : (Try.prog.info? 24).map (fun i => (i.zero, i.size, i.bytes)) = some (some (.int .u64 0), 1, 8) := by kernel_rfl
theorem filter_succ (S : Nat → Bool) (k : Nat) : (List.range (k + 1)).filter S = (List.range k).filter S ++ (if S k then [k] else []) := by
  rw [List.range_succ, List.filter_append]
  by_cases h : S k <;> simp [h]

set_option maxRecDepth 100000 in
set_option maxHeartbeats 1000000 in
theorem said64_any {w : World} {B p len : Nat} {S : Nat → Bool} (h : Bs w B p len S) :
    Calls Try.prog 32 #[.pointer (some ⟨p, 0, none⟩)] w fun e w' => ∃ v, e = .returned v ∧ (∀ W : World, (∀ k, w.heap.size ≤ k → k < w'.heap.size → W.heap[k]? = w'.heap[k]?) → IsBits W v len S) ∧ Below w.heap.size w w' := by
  obtain ⟨i0, hi, hz0, hz1, hz2⟩ := info_parts info22
  have HI : Hid (Try.prog.info? 24 = some i0 ∧ i0.zero = some (.int .u64 0) ∧ i0.size = 1 ∧ i0.bytes = 8) := ⟨hi, hz0, hz1, hz2⟩
  clear hi hz0 hz1 hz2
  have HB := Lib.hid h
  obtain ⟨b, n, c, f, h1, h2, h3, h4, h5, hS⟩ := h
  have H1 := Lib.hid h1
  have HS := Lib.hid hS
  clear h1 hS
  go_enter Try.func32, Try.ntmps32
  go_wp2_with fail
  refine (len_any (H1.out.below ((Below.refl _ _).alloc (Nat.le_refl _) _) H1.out.plt H1.out.blt)).mono ?_
  rintro e w1 ⟨rfl, rfl⟩
  go_wp2_with fail
  go_loopw [4] (fun iv wr => ∃ (k : Nat) (v : Value), k ≤ len ∧ iv = .int .u64 k ∧ Hid (Blk wr w.heap.size #[.int .u64 0, .slice none 0 0] 45 ∧ Blk wr (w.heap.size + 1) #[.int .u64 len, v] 45 ∧
      wr.ownsRow (w.heap.size + 2) 24 1 v ((List.range k).filter S).length (((List.range k).filter S).map fun n : Nat => Value.int .u64 (n : Int)) ∧ Below w.heap.size w wr)) (fun iv _ => len - (intOf iv).toNat)
  case atStart =>
    refine ⟨0, _, by omega, rfl, (Blk.new _ _ _).alloc _, ?_, World.ownsRow_nil _ _ _ _, ((Below.refl _ _).alloc (Nat.le_refl _) _).alloc (by simp) _⟩
    have := Blk.new (w.alloc (Obj.cells #[Value.int IntKind.u64 0, Value.slice none 0 0] 45)) #[Value.int IntKind.u64 ↑len, Value.slice none 0 0] 45
    simp at this
    exact this
  case round =>
    obtain ⟨k, v, hk, rfl, hR⟩ := hrel
    have HR : Hid (Blk wr w.heap.size #[.int .u64 0, .slice none 0 0] 45 ∧ Blk wr (w.heap.size + 1) #[.int .u64 len, v] 45 ∧
      wr.ownsRow (w.heap.size + 2) 24 1 v ((List.range k).filter S).length (((List.range k).filter S).map fun n : Nat => Value.int .u64 (n : Int)) ∧ Below w.heap.size w wr) := hR
    clear hR
    have g0 : wr.cell? ⟨w.heap.size + 1, 0, none⟩ = some (.int .u64 len) := HR.out.2.1.cell rfl
    have g1 : wr.cell? ⟨w.heap.size + 1, 1, none⟩ = some v := HR.out.2.1.cell rfl
    have g2 := HR.out.2.1.free 1
    have r0 : wr.cell? ⟨w.heap.size, 0, none⟩ = some (.int .u64 0) := HR.out.1.cell rfl
    have r1 : wr.cell? ⟨w.heap.size, 1, none⟩ = some (.slice none 0 0) := HR.out.1.cell rfl
    have r2 := HR.out.1.free 0
    have r3 := HR.out.1.free 1
    by_cases hkl : k < len
    · have hT := test_any (H1.out.below HR.out.2.2.2 H1.out.plt H1.out.blt) k (by omega) (by omega)
      rw [← HS.out] at hT
      have HT := Lib.hid hT
      clear hT
      have HF := Lib.hid (filter_succ S k)
      cases hSk : S k
      · have HK := Lib.hid hSk
        clear hSk
        go_wp2_with fail
        refine HT.out.mono ?_
        rintro e w2 ⟨rfl, d, rfl⟩
        rw [HK.out]
        go_wp2_with fail
        go_roundw
        case rel =>
          refine ⟨k + 1, v, by omega, by go_num, HR.out.1.drewN d, HR.out.2.1.drewN d, ?_, below_drewN HR.out.2.2.2 d⟩
          rw [HF.out, HK.out]
          have : (wr.drewN d).ownsRow (w.heap.size + 2) 24 1 v ((List.range k).filter S).length (((List.range k).filter S).map fun n : Nat => Value.int .u64 (n : Int)) := HR.out.2.2.1
          simpa using this
        case measure => simp [intOf]; omega
      · have HK := Lib.hid hSk
        clear hSk
        go_wp2_with fail
        refine HT.out.mono ?_
        rintro e w2 ⟨rfl, d, hw⟩
        rw [HK.out]
        have HR2 : Hid (Blk w2 w.heap.size #[.int .u64 0, .slice none 0 0] 45 ∧ Blk w2 (w.heap.size + 1) #[.int .u64 len, v] 45 ∧
            w2.ownsRow (w.heap.size + 2) 24 1 v ((List.range k).filter S).length (((List.range k).filter S).map fun n : Nat => Value.int .u64 (n : Int)) ∧ Below w.heap.size w w2) := by
          rw [hw]
          exact ⟨HR.out.1.drewN d, HR.out.2.1.drewN d, HR.out.2.2.1, below_drewN HR.out.2.2.2 d⟩
        have g0 : w2.cell? ⟨w.heap.size + 1, 0, none⟩ = some (.int .u64 len) := HR2.out.2.1.cell rfl
        have g1 : w2.cell? ⟨w.heap.size + 1, 1, none⟩ = some v := HR2.out.2.1.cell rfl
        have g2 := HR2.out.2.1.free 1
        have hsz := HR2.out.2.1.lt
        clear hw r0 r1 r2 r3
        have hlen : ((List.range k).filter S).length ≤ 100000 := Nat.le_trans (List.length_filter_le _ _) (by simp; omega)
        generalize hL : (List.range k).filter S = L at *
        have HL := Lib.hid hL
        clear hL
        go_wp2_with (at_builtin; go_must (refine wpList_append_own_at _ rfl _ _ 43 rfl (w.heap.size + 2) 24 i0 (.int .u64 0) 1 8 Try.underlying43 HI.out.1 HI.out.2.1 HI.out.2.2.1 HI.out.2.2.2 rfl (by decide) _ _ _ rfl (HR2.out.2.2.1.alloc _) ⟨w2.heap.size, 0, none⟩ 1 1 [.int .u64 k] rfl rfl ?c1 ?c2 ?c3 ?c4 ?c5 ?_))
        case c1 =>
          intro j u hj
          match j, hj with
          | 0, hj => simp at hj; subst hj; simp [Addr.add]
        case c2 => intro u hu; simp at hu; subst hu; rfl
        case c3 => unfold maxLen; omega
        case c4 => omega
        case c5 => simp; omega
        intro v' w3 hown' hgrow _ hblk
        obtain ⟨so, cp, rfl⟩ := own_shape hown'
        have hba : Below (w.heap.size + 2) w2 w3 := own_grown HR2.out.2.2.1 hgrow (by omega)
        have q1 := HR2.out.1.below hba (by omega)
        have q2 := HR2.out.2.1.below hba (by omega)
        have q4 := HR2.out.2.2.2.trans (hba.mono (by omega))
        have e1 := q2.free 1
        have e2 : w3.cell? ⟨w.heap.size + 1, 1, none⟩ = some v := q2.cell rfl
        have HQ : Hid (Blk w3 w.heap.size #[.int .u64 0, .slice none 0 0] 45 ∧ Blk w3 (w.heap.size + 1) #[.int .u64 len, v] 45 ∧
            w3.ownsRow (w.heap.size + 2) 24 1 (.slice so (L.length + 1) cp) (L.length + 1) ((L.map fun n : Nat => Value.int .u64 (n : Int)) ++ [Value.int .u64 k]) ∧ Below w.heap.size w w3) := ⟨q1, q2, hown', q4⟩
        clear hba q1 q2 q4 hown' hgrow hblk g0 g1 g2 hsz
        go_wp2_with fail
        go_roundw
        case rel =>
          refine ⟨k + 1, _, by omega, by go_num, HQ.out.1.other (by simp) _, HQ.out.2.1.set 1 _, ?_, HQ.out.2.2.2.setCell (by simp) _⟩
          rw [HF.out, HK.out]
          simpa using ownsRow_setCell_below HQ.out.2.2.1 (a := ⟨w.heap.size + 1, 1, none⟩) (by simp) _
        case measure => simp [intOf]; omega
    · have hkx : k = len := by omega
      have HK := Lib.hid hkx
      clear hkx
      obtain ⟨so, cp, rfl⟩ := own_shape HR.out.2.2.1
      have HL : Hid (∀ (x y : Value) (W : World), (∀ k, w.heap.size ≤ k → k < (((wr.setCell ⟨w.heap.size, 0, none⟩ x).setCell ⟨w.heap.size, 1, none⟩ y)).heap.size → W.heap[k]? = (((wr.setCell ⟨w.heap.size, 0, none⟩ x).setCell ⟨w.heap.size, 1, none⟩ y)).heap[k]?) →
          Nums .u64 W (.slice so ((List.range k).filter S).length cp) ((List.range k).filter S)) := fun x y W hW =>
        Nums.of_own (own_same (ownsRow_setCell_below (ownsRow_setCell_below HR.out.2.2.1 (by simp) x) (by simp) y) (fun k h1 h2 => hW k (by omega) h2))
      generalize ((List.range k).filter S).length = m at *
      go_wp2_with fail
      have s0 : Blk ((wr.setCell ⟨w.heap.size, 0, none⟩ (.int .u64 len)).setCell ⟨w.heap.size, 1, none⟩ (.slice so m cp)) w.heap.size #[.int .u64 len, .slice so m cp] 45 := (HR.out.1.set 0 _).set 1 _
      have hbl : Below w.heap.size w ((wr.setCell ⟨w.heap.size, 0, none⟩ (.int .u64 len)).setCell ⟨w.heap.size, 1, none⟩ (.slice so m cp)) := (HR.out.2.2.2.setCell (Nat.le_refl _) _).setCell (Nat.le_refl _) _
      have d0 := s0.cell (i := 0) rfl
      have d1 := s0.cell (i := 1) rfl
      refine bodyPost_ret (v := .agg #[.int .u64 len, .slice so m cp]) ?_ rfl ⟨_, rfl, fun W hW => ⟨_, rfl, ?_, h5, HB.out.out⟩, hbl⟩
      · simp at d0 d1
        simp [results, Try.results32, go_sem, d0, d1]
      · rw [← HK.out]
        exact HL.out _ _ W hW
end Go.Proofs.Ytbkodehcjhpcmaa.Q
