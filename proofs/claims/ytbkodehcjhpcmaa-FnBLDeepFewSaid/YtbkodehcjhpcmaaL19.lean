/- A bitset of whole words as plain data; impl.BSFrom and impl.BSCount. -/
import Derived.Test.YtbkodehcjhpcmaaL18
import Derived.Test.YtbkodehcjhpcmaaQG
namespace Go.Proofs.Ytbkodehcjhpcmaa.Q
open Go.RowKit

theorem Nums.shape {K : IntKind} {w : World} {sl : Value} {xs : List Nat} (h : Nums K w sl xs) : ∃ so cp, sl = .slice so xs.length cp := by
  rcases h with ⟨h1, h2⟩ | ⟨b, o, c, h1, _⟩
  · exact ⟨none, 0, by rw [h1, h2]; rfl⟩
  · exact ⟨_, _, h1⟩
theorem IsBits.shape {w : World} {v : Value} {len : Nat} {S : Nat → Bool} (h : IsBits w v len S) : ∃ so n cp, v = .agg #[.int .u64 len, .slice so n cp] := by
  obtain ⟨sl, h1, h2, _⟩ := h
  obtain ⟨so, cp, h3⟩ := h2.shape
  exact ⟨so, _, cp, by rw [h1, h3]⟩
theorem IsBits.len_le {w : World} {v : Value} {len : Nat} {S : Nat → Bool} (h : IsBits w v len S) : len ≤ 100000 := by
  obtain ⟨_, _, _, h, _⟩ := h; exact h
theorem IsBits.out {w : World} {v : Value} {len : Nat} {S : Nat → Bool} (h : IsBits w v len S) (j : Nat) (hj : len ≤ j) : S j = false := by
  obtain ⟨_, _, _, _, h⟩ := h; exact h j hj
/-- What a thin function ends in: data of a bitset, in new memory. -/
def Gives (w : World) (len : Nat) (S : Nat → Bool) (e : Ending) (w' : World) : Prop := ∃ v, e = .returned v ∧ IsBits w' v len S ∧ Below w.heap.size w w'

theorem gives_end {w w3 : World} {R : Nat} {T : TypeId} {x0 x1 : Value} {len : Nat} {S : Nat → Bool} {so : Option Addr} {n cp : Nat} (hR : w.heap.size ≤ R) {w2 : World} (hR2 : R < w2.heap.size)
    (hb : Blk w3 R #[x0, x1] T) (hv : ∀ W : World, (∀ k, w2.heap.size ≤ k → k < w3.heap.size → W.heap[k]? = w3.heap[k]?) → IsBits W (.agg #[.int .u64 len, .slice so n cp]) len S) (hbl : Below w.heap.size w w3) :
    Blk ((w3.setCell ⟨R, 0, none⟩ (.int .u64 len)).setCell ⟨R, 1, none⟩ (.slice so n cp)) R #[.int .u64 len, .slice so n cp] T ∧
      Gives w len S (.returned (.agg #[.int .u64 len, .slice so n cp])) ((w3.setCell ⟨R, 0, none⟩ (.int .u64 len)).setCell ⟨R, 1, none⟩ (.slice so n cp)) := by
  refine ⟨(hb.set 0 _).set 1 _, _, rfl, hv _ fun k h1 h2 => ?_, (hbl.setCell hR _).setCell hR _⟩
  rw [Below.heap_setCell _ _ _ _ (by show k ≠ R; omega), Below.heap_setCell _ _ _ _ (by show k ≠ R; omega)]

theorem rlen_any {w : World} {p b n c l : Nat} {f : Nat → Nat} (h : RS w p b n c f) (hl : l = 64 * n) :
    Calls Try.prog 47 #[.pointer (some ⟨p, 0, none⟩)] w fun e w' => e = .returned (.int .u64 l) ∧ w = w' := by
  have h0 := h.len_cell
  rw [← hl] at h0
  clear h hl
  go_enter Try.func47, Try.ntmps47
  go_wp2
  go_ret
  exact ⟨rfl, rfl⟩

set_option maxRecDepth 100000 in
set_option maxHeartbeats 1000000 in
theorem rsaid_any {w : World} {p b n c len : Nat} {f : Nat → Nat} {S : Nat → Bool} (h : RS w p b n c f) (hn : n ≤ 1000) (hln : len = 64 * n) (hS : ∀ j, S j = (decide (j < len) && bit f j)) :
    Calls Try.prog 32 #[.pointer (some ⟨p, 0, none⟩)] w fun e w' => ∃ v, e = .returned v ∧ (∀ W : World, (∀ k, w.heap.size ≤ k → k < w'.heap.size → W.heap[k]? = w'.heap[k]?) → IsBits W v len S) ∧ Below w.heap.size w w' := by
  obtain ⟨i0, hi, hz0, hz1, hz2⟩ := info_parts info22
  have HI : Hid (Try.prog.info? 24 = some i0 ∧ i0.zero = some (.int .u64 0) ∧ i0.size = 1 ∧ i0.bytes = 8) := ⟨hi, hz0, hz1, hz2⟩
  clear hi hz0 hz1 hz2
  have h5 : len ≤ 100000 := by omega
  have HB : Hid (∀ j, len ≤ j → S j = false) := fun j hj => by rw [hS, decide_eq_false (by omega), Bool.false_and]
  have H1 := Lib.hid h
  have HS := Lib.hid hS
  have HLN := Lib.hid hln
  clear h hS hln
  go_enter Try.func32, Try.ntmps32
  go_wp2_with fail
  refine (rlen_any (H1.out.below ((Below.refl _ _).alloc (Nat.le_refl _) _)) HLN.out).mono ?_
  rintro e w1 ⟨rfl, rfl⟩
  go_wp2_with fail
  go_loopw [4] (fun iv wr => ∃ (k : Nat) (v : Value), k ≤ len ∧ iv = .int .u64 k ∧ Hid (Blk wr w.heap.size #[.int .u64 0, .slice none 0 0] 45 ∧ Blk wr (w.heap.size + 1) #[.int .u64 len, v] 45 ∧
      wr.ownsRow (w.heap.size + 2) 24 1 v ((List.range k).filter S).length (((List.range k).filter S).map fun n : Nat => Value.int .u64 (n : Int)) ∧ Below w.heap.size w wr)) (fun iv _ => len - (intOf iv).toNat)
  case atStart =>
    refine ⟨0, _, by omega, rfl, (Blk.new _ _ _).alloc _, ?_, World.ownsRow_nil _ _ _ _, ((Below.refl _ _).alloc (Nat.le_refl _) _).alloc (by simp) _⟩
    have := Blk.new (w.alloc (Obj.cells #[Value.int IntKind.u64 0, Value.slice none 0 0] 45)) #[Value.int IntKind.u64 ↑len, Value.slice none 0 0] 45
    simp at this
    exact this
  case round =>
    obtain ⟨k, v, hk, rfl, hR⟩ := hrel
    have HR : Hid (Blk wr w.heap.size #[.int .u64 0, .slice none 0 0] 45 ∧ Blk wr (w.heap.size + 1) #[.int .u64 len, v] 45 ∧
      wr.ownsRow (w.heap.size + 2) 24 1 v ((List.range k).filter S).length (((List.range k).filter S).map fun n : Nat => Value.int .u64 (n : Int)) ∧ Below w.heap.size w wr) := hR
    clear hR
    have g0 : wr.cell? ⟨w.heap.size + 1, 0, none⟩ = some (.int .u64 len) := HR.out.2.1.cell rfl
    have g1 : wr.cell? ⟨w.heap.size + 1, 1, none⟩ = some v := HR.out.2.1.cell rfl
    have g2 := HR.out.2.1.free 1
    have r0 : wr.cell? ⟨w.heap.size, 0, none⟩ = some (.int .u64 0) := HR.out.1.cell rfl
    have r1 : wr.cell? ⟨w.heap.size, 1, none⟩ = some (.slice none 0 0) := HR.out.1.cell rfl
    have r2 := HR.out.1.free 0
    have r3 := HR.out.1.free 1
    by_cases hkl : k < len
    · have hT := Go.Proofs.Ytbkodehcjhpcmaa.test_any (H1.out.below HR.out.2.2.2) hn k (by rw [← HLN.out]; exact hkl)
      rw [show bit f k = S k by rw [HS.out, decide_eq_true hkl, Bool.true_and]] at hT
      have HT := Lib.hid hT
      clear hT
      have HF := Lib.hid (filter_succ S k)
      cases hSk : S k
      · have HK := Lib.hid hSk
        clear hSk
        go_wp2_with fail
        refine HT.out.mono ?_
        rintro e w2 ⟨rfl, d, rfl⟩
        rw [HK.out]
        go_wp2_with fail
        go_roundw
        case rel =>
          refine ⟨k + 1, v, by omega, by go_num, HR.out.1.drewN d, HR.out.2.1.drewN d, ?_, below_drewN HR.out.2.2.2 d⟩
          rw [HF.out, HK.out]
          have : (wr.drewN d).ownsRow (w.heap.size + 2) 24 1 v ((List.range k).filter S).length (((List.range k).filter S).map fun n : Nat => Value.int .u64 (n : Int)) := HR.out.2.2.1
          simpa using this
        case measure => simp [intOf]; omega
      · have HK := Lib.hid hSk
        clear hSk
        go_wp2_with fail
        refine HT.out.mono ?_
        rintro e w2 ⟨rfl, d, hw⟩
        rw [HK.out]
        have HR2 : Hid (Blk w2 w.heap.size #[.int .u64 0, .slice none 0 0] 45 ∧ Blk w2 (w.heap.size + 1) #[.int .u64 len, v] 45 ∧
            w2.ownsRow (w.heap.size + 2) 24 1 v ((List.range k).filter S).length (((List.range k).filter S).map fun n : Nat => Value.int .u64 (n : Int)) ∧ Below w.heap.size w w2) := by
          rw [hw]
          exact ⟨HR.out.1.drewN d, HR.out.2.1.drewN d, HR.out.2.2.1, below_drewN HR.out.2.2.2 d⟩
        have g0 : w2.cell? ⟨w.heap.size + 1, 0, none⟩ = some (.int .u64 len) := HR2.out.2.1.cell rfl
        have g1 : w2.cell? ⟨w.heap.size + 1, 1, none⟩ = some v := HR2.out.2.1.cell rfl
        have g2 := HR2.out.2.1.free 1
        have hsz := HR2.out.2.1.lt
        clear hw r0 r1 r2 r3
        have hlen : ((List.range k).filter S).length ≤ 100000 := Nat.le_trans (List.length_filter_le _ _) (by simp; omega)
        generalize hL : (List.range k).filter S = L at *
        have HL := Lib.hid hL
        clear hL
        go_wp2_with (at_builtin; go_must (refine wpList_append_own_at _ rfl _ _ 43 rfl (w.heap.size + 2) 24 i0 (.int .u64 0) 1 8 Try.underlying43 HI.out.1 HI.out.2.1 HI.out.2.2.1 HI.out.2.2.2 rfl (by decide) _ _ _ rfl (HR2.out.2.2.1.alloc _) ⟨w2.heap.size, 0, none⟩ 1 1 [.int .u64 k] rfl rfl ?c1 ?c2 ?c3 ?c4 ?c5 ?_))
        case c1 =>
          intro j u hj
          match j, hj with
          | 0, hj => simp at hj; subst hj; simp [Addr.add]
        case c2 => intro u hu; simp at hu; subst hu; rfl
        case c3 => unfold maxLen; omega
        case c4 => omega
        case c5 => simp; omega
        intro v' w3 hown' hgrow _ hblk
        obtain ⟨so, cp, rfl⟩ := own_shape hown'
        have hba : Below (w.heap.size + 2) w2 w3 := own_grown HR2.out.2.2.1 hgrow (by omega)
        have q1 := HR2.out.1.below hba (by omega)
        have q2 := HR2.out.2.1.below hba (by omega)
        have q4 := HR2.out.2.2.2.trans (hba.mono (by omega))
        have e1 := q2.free 1
        have e2 : w3.cell? ⟨w.heap.size + 1, 1, none⟩ = some v := q2.cell rfl
        have HQ : Hid (Blk w3 w.heap.size #[.int .u64 0, .slice none 0 0] 45 ∧ Blk w3 (w.heap.size + 1) #[.int .u64 len, v] 45 ∧
            w3.ownsRow (w.heap.size + 2) 24 1 (.slice so (L.length + 1) cp) (L.length + 1) ((L.map fun n : Nat => Value.int .u64 (n : Int)) ++ [Value.int .u64 k]) ∧ Below w.heap.size w w3) := ⟨q1, q2, hown', q4⟩
        clear hba q1 q2 q4 hown' hgrow hblk g0 g1 g2 hsz
        go_wp2_with fail
        go_roundw
        case rel =>
          refine ⟨k + 1, _, by omega, by go_num, HQ.out.1.other (by simp) _, HQ.out.2.1.set 1 _, ?_, HQ.out.2.2.2.setCell (by simp) _⟩
          rw [HF.out, HK.out]
          simpa using ownsRow_setCell_below HQ.out.2.2.1 (a := ⟨w.heap.size + 1, 1, none⟩) (by simp) _
        case measure => simp [intOf]; omega
    · have hkx : k = len := by omega
      have HK := Lib.hid hkx
      clear hkx
      obtain ⟨so, cp, rfl⟩ := own_shape HR.out.2.2.1
      have HL : Hid (∀ (x y : Value) (W : World), (∀ k, w.heap.size ≤ k → k < (((wr.setCell ⟨w.heap.size, 0, none⟩ x).setCell ⟨w.heap.size, 1, none⟩ y)).heap.size → W.heap[k]? = (((wr.setCell ⟨w.heap.size, 0, none⟩ x).setCell ⟨w.heap.size, 1, none⟩ y)).heap[k]?) →
          Nums .u64 W (.slice so ((List.range k).filter S).length cp) ((List.range k).filter S)) := fun x y W hW =>
        Nums.of_own (own_same (ownsRow_setCell_below (ownsRow_setCell_below HR.out.2.2.1 (by simp) x) (by simp) y) (fun k h1 h2 => hW k (by omega) h2))
      generalize ((List.range k).filter S).length = m at *
      go_wp2_with fail
      have s0 : Blk ((wr.setCell ⟨w.heap.size, 0, none⟩ (.int .u64 len)).setCell ⟨w.heap.size, 1, none⟩ (.slice so m cp)) w.heap.size #[.int .u64 len, .slice so m cp] 45 := (HR.out.1.set 0 _).set 1 _
      have hbl : Below w.heap.size w ((wr.setCell ⟨w.heap.size, 0, none⟩ (.int .u64 len)).setCell ⟨w.heap.size, 1, none⟩ (.slice so m cp)) := (HR.out.2.2.2.setCell (Nat.le_refl _) _).setCell (Nat.le_refl _) _
      have d0 := s0.cell (i := 0) rfl
      have d1 := s0.cell (i := 1) rfl
      refine bodyPost_ret (v := .agg #[.int .u64 len, .slice so m cp]) ?_ rfl ⟨_, rfl, fun W hW => ⟨_, rfl, ?_, h5, HB.out⟩, hbl⟩
      · simp at d0 d1
        simp [results, Try.results32, go_sem, d0, d1]
      · rw [← HK.out]
        exact HL.out _ _ W hW

set_option maxRecDepth 100000 in
theorem iFrom {w : World} {sl : Value} {n : Nat} {f : Nat → Nat} (h : Wds w sl n f) (h0 : 0 < n) (hn : n ≤ 1000) (hs : ∀ i, f i < 18446744073709551616) :
    Calls Try.prog 18 #[sl] w fun e w' => (∃ so m cp, e = .returned (.agg #[.int .u64 ((64 * n : Nat) : Int), .slice so m cp]) ∧ IsBits w' (.agg #[.int .u64 ((64 * n : Nat) : Int), .slice so m cp]) (64 * n) (fun j => decide (j < 64 * n) && bit f j)) ∧ Below w.heap.size w w' := by
  obtain ⟨L, hL⟩ : ∃ L, L = 64 * n := ⟨_, rfl⟩
  rw [← hL]
  have HL := Lib.hid hL
  have HS := Lib.hid hs
  have H := Lib.hid h
  obtain ⟨bb, o, cc, hsl, -, -⟩ := h
  subst hsl
  clear hs hL
  go_enter Try.func18, Try.ntmps18
  go_wp2_with fail
  refine (words_any (H.out.same ((Below.refl _ _).alloc (Nat.le_refl _) _)) h0 hn).mono ?_
  rintro e w1 ⟨b, c, rfl, hb, hc, hr, hbl⟩
  have H1 : Hid (n ≤ c ∧ Row w1 b n f ∧ Below w.heap.size w w1 ∧ Blk w1 w.heap.size #[.int .u64 0, .slice none 0 0] 45 ∧ w.heap.size < w1.heap.size) :=
    ⟨hc, hr, ((Below.refl _ _).alloc (Nat.le_refl _) _).trans (hbl.mono (by simp)), (Blk.new w _ _).below hbl (by simp), by have := hbl.size; simp at this; omega⟩
  clear hb hc hr hbl
  go_wp2_with fail
  refine (bfrom_any H1.out.2.1 H1.out.1 hn HS.out).mono ?_
  rintro e w2 ⟨rfl, hr, hbl⟩
  have H2 : Hid (RS w2 w1.heap.size b n c f ∧ Below w.heap.size w w2 ∧ Blk w2 w.heap.size #[.int .u64 0, .slice none 0 0] 45 ∧ w.heap.size < w2.heap.size) :=
    ⟨hr, H1.out.2.2.1.trans (hbl.mono H1.out.2.2.1.size), H1.out.2.2.2.1.below hbl H1.out.2.2.2.2, by have := hbl.size; have := H1.out.2.2.2.2; omega⟩
  clear hr hbl
  go_wp2_with fail
  refine (rsaid_any (S := fun j => decide (j < L) && bit f j) H2.out.1 hn HL.out (fun _ => rfl)).mono ?_
  rintro e w3 ⟨v', rfl, hv, hb⟩
  obtain ⟨so', n', cp', rfl⟩ := (hv w3 (fun _ _ _ => rfl)).shape
  have hk := H2.out.2.2.1.below hb H2.out.2.2.2
  have HE := Lib.hid (gives_end (Nat.le_refl _) H2.out.2.2.2 hk hv (H2.out.2.1.trans (hb.mono H2.out.2.1.size)))
  have e0 : w3.cell? ⟨w.heap.size, 0, none⟩ = some (.int .u64 0) := hk.cell rfl
  have e1 : w3.cell? ⟨w.heap.size, 1, none⟩ = some (.slice none 0 0) := hk.cell rfl
  have f0 := hk.free 0
  have f1 := hk.free 1
  clear hk hv hb
  go_wp2_with fail
  have d0 := HE.out.1.cell (i := 0) rfl
  have d1 := HE.out.1.cell (i := 1) rfl
  refine bodyPost_ret (v := .agg #[.int .u64 L, .slice so' n' cp']) ?_ rfl ?_
  · simp at d0 d1
    simp [results, Try.results18, go_sem, d0, d1]
  · obtain ⟨v, hv, hb, hbl⟩ := HE.out.2
    cases hv
    exact ⟨⟨so', n', cp', rfl, hb⟩, hbl⟩

set_option maxRecDepth 100000 in
theorem iCount {w : World} {v : Value} {len : Nat} {S : Nat → Bool} (h : IsBits w v len S) :
    Calls Try.prog 17 #[v] w fun e w' => e = .returned (.int .u64 (cd S len)) ∧ Below w.heap.size w w' := by
  have H := Lib.hid h
  obtain ⟨so, n, cp, rfl⟩ := h.shape
  clear h
  go_enter Try.func17, Try.ntmps17
  go_wp2_with fail
  refine (set64_any (H.out.same ((Below.refl _ _).alloc (Nat.le_refl _) _))).mono ?_
  rintro e w1 ⟨p, rfl, hB, hb⟩
  simp at hB hb
  have HB : Hid (Bs w1 (w.heap.size + 1) p len S ∧ Below w.heap.size w w1) := ⟨hB, ((Below.refl _ _).alloc (Nat.le_refl _) _).trans (hb.mono (by omega))⟩
  clear hB hb
  go_wp2_with fail
  refine (count_any HB.out.1).mono ?_
  rintro e w2 ⟨rfl, rfl⟩
  go_wp2_with fail
  go_ret
  exact ⟨rfl, HB.out.2⟩

/-- How many bits a filter's words have. -/
def many (f : Nat → Nat) (n : Nat) : Nat := cd (bit f) (64 * n)
theorem cd_le_of {S T : Nat → Bool} : ∀ n, (∀ j, S j = true → T j = true) → cd S n ≤ cd T n
  | 0, _ => Nat.le_refl _
  | n + 1, h => by
    rw [cd, cd]
    have := cd_le_of n h
    have h2 := h n
    cases hs : S n <;> cases ht : T n <;> simp_all <;> omega
theorem cd_one {S : Nat → Bool} (i : Nat) : ∀ n, cd (fun j => S j || decide (i = j)) n ≤ cd S n + (if i < n then 1 else 0)
  | 0 => by simp [cd]
  | n + 1 => by
    rw [cd, cd]
    have := cd_one (S := S) i n
    by_cases e : i = n
    · subst e
      rw [if_neg (by omega)] at this
      rw [if_pos (by omega)]
      cases S i <;> simp <;> omega
    · have h2 : decide (i = n) = false := decide_eq_false e
      rw [h2, Bool.or_false]
      by_cases h3 : i < n
      · rw [if_pos h3] at this; rw [if_pos (by omega)]; omega
      · rw [if_neg h3] at this; rw [if_neg (by omega)]; omega
theorem cd_strict {S T : Nat → Bool} {i : Nat} (hi : S i = false) (hi2 : T i = true) : ∀ n, i < n → (∀ j, S j = true → T j = true) → cd S n < cd T n
  | 0, h, _ => absurd h (by omega)
  | n + 1, h, hm => by
    rw [cd, cd]
    by_cases e : i = n
    · subst e
      have := cd_le_of i hm
      rw [hi, hi2]
      simp
      omega
    · have := cd_strict hi hi2 n (by omega) hm
      have h2 := hm n
      cases hs : S n <;> cases ht : T n <;> simp_all <;> omega
theorem many_congr {f g : Nat → Nat} {n : Nat} (h : ∀ j, bit f j = bit g j) : many f n = many g n := cd_congr _ fun j _ => h j
theorem many_adds (f : Nat → Nat) (h : Nat → Int) (m n : Nat) : ∀ k, many f n ≤ many (adds f h m k) n ∧ many (adds f h m k) n ≤ many f n + k
  | 0 => ⟨cd_le_of _ fun j hj => by rw [adds_bit, hj]; rfl, by
      rw [many_congr (f := adds f h m 0) (g := f) fun j => by rw [adds_bit]; simp [hit]]
      exact Nat.le_refl _⟩
  | k + 1 => by
    have ih := many_adds f h m n k
    refine ⟨cd_le_of _ fun j hj => by rw [adds_bit, hj]; rfl, ?_⟩
    have e : many (adds f h m (k + 1)) n = cd (fun j => bit (adds f h m k) j || decide (place h m k = j)) (64 * n) := cd_congr _ fun j _ => by
      rw [adds_bit, adds_bit, Bool.or_assoc]
      simp only [hit, List.range_succ, List.any_append, List.any_cons, List.any_nil, Bool.or_false]
    have := cd_one (S := bit (adds f h m k)) (place h m k) (64 * n)
    have h2 : many (adds f h m k) n = cd (bit (adds f h m k)) (64 * n) := rfl
    rw [e]
    split at this <;> omega
theorem hit_true {h : Nat → Int} {m k t : Nat} (ht : t < k) : hit h m k (place h m t) = true := by
  simp only [hit, List.any_eq_true]
  exact ⟨t, List.mem_range.2 ht, by simp⟩
theorem many_pos {f : Nat → Nat} {h : Nat → Int} {m n k : Nat} (hm : 0 < m) (hmn : m ≤ 64 * n) (hk : 0 < k) : 0 < many (adds f h m k) n :=
  cd_pos (i := place h m 0) (Nat.lt_of_lt_of_le (place_lt h hm 0) hmn) (by rw [adds_bit, hit_true hk, Bool.or_true])
theorem many_found {f : Nat → Nat} {h : Nat → Int} {m n k : Nat} (hm : 0 < m) (hmn : m ≤ 64 * n) : decide (many f n < many (adds f h m k) n) = !found f h m k := by
  cases hf : found f h m k
  · rw [Bool.not_false, decide_eq_true_eq]
    simp only [found, List.all_eq_false] at hf
    obtain ⟨t, ht, hb⟩ := hf
    exact cd_strict (i := place h m t) (by simpa using hb) (by rw [adds_bit, hit_true (List.mem_range.1 ht), Bool.or_true]) _ (Nat.lt_of_lt_of_le (place_lt h hm t) hmn) (fun j hj => by rw [adds_bit, hj]; rfl)
  · rw [Bool.not_true, decide_eq_false_iff_not]
    simp only [found, List.all_eq_true] at hf
    rw [many_congr (f := adds f h m k) (g := f) fun j => by
      rw [adds_bit]
      cases hh : hit h m k j
      · rw [Bool.or_false]
      · simp only [hit, List.any_eq_true, decide_eq_true_eq] at hh
        obtain ⟨t, ht, rfl⟩ := hh
        rw [hf t ht]; rfl]
    exact Nat.lt_irrefl _
theorem many_cd (f : Nat → Nat) (n : Nat) : cd (fun j => decide (j < 64 * n) && bit f j) (64 * n) = many f n := cd_congr _ fun j hj => by rw [decide_eq_true hj, Bool.true_and]
theorem many_le (f : Nat → Nat) (n : Nat) : many f n ≤ 64 * n := cd_le _ _
end Go.Proofs.Ytbkodehcjhpcmaa.Q
