/- The filter that is looked at: its numbers, and some words. -/
import Derived.Test.YtbkodehcjhpcmaaL17
namespace Go.Proofs.Ytbkodehcjhpcmaa
open Go.RowKit

theorem Raww.same {w w' : World} {so : Option Addr} {n cp : Nat} {f : Nat → Nat} (h : Raww w so n cp f) (hb : Below w.heap.size w w') : Raww w' so n cp f :=
  ⟨h.1, h.2.1, fun h0 => by
    obtain ⟨b, o, h1, h2⟩ := h.2.2 h0
    exact ⟨b, o, h1, fun i hi => (hb.cell (cell_lt (h2 i hi))).trans (h2 i hi)⟩⟩
theorem mask_nat (x left : Nat) (hx : x < 18446744073709551616) (hl : left < 64) : ∃ z : Nat, z < 18446744073709551616 ∧ bits BinOp.and IntKind.u64 (x : Int) (IntKind.u64.wrap (IntKind.u64.wrap (2 ^ left) - 1)) = (z : Int) := by
  have h1 := wpow64 left hl
  have h2 := pow64 left hl
  have h3 : 0 < 2 ^ left := Nat.pow_pos (by decide)
  have h4 : IntKind.u64.wrap (IntKind.u64.wrap (2 ^ left) - 1) = ((2 ^ left - 1 : Nat) : Int) := by
    rw [h1, show (((2 ^ left : Nat) : Int) - 1) = ((2 ^ left - 1 : Nat) : Int) by omega]
    exact wrapN64 _ (by omega)
  rw [h4, u64_and_nat _ _ hx (by omega)]
  exact ⟨_, Nat.lt_of_le_of_lt Nat.and_le_left hx, rfl⟩
theorem own_shape' {w : World} {base : Nat} {e : TypeId} {size : Nat} {v : Value} {n : Nat} {xs : List Value} (h : w.ownsRow base e size v n xs) : ∃ so cp, v = .slice so n cp := own_shape h
theorem cellnew1 (W : World) (x : Value) (t : TypeId) (ad : Nat) (had : ad = W.heap.size) : ∀ j u, [x][j]? = some u → (W.alloc (.cells #[x] t)).cell? ((⟨ad, 0, none⟩ : Addr).add j) = some u := by
  subst had
  intro j u hj
  match j, hj with
  | 0, hj => simp at hj; subst hj; simp [Addr.add]
set_option maxRecDepth 100000 in
set_option maxHeartbeats 4000000 in
theorem blFilter_any {w : World} {so : Option Addr} {n cp : Nat} {f : Nat → Nat} (hw : Raww w so n cp f) (m kk : Nat) (hm : m < 65536) (hk : kk < 256) (hn : n ≤ 2147483647) :
    Calls Try.prog 12 #[.int .u16 m, .int .u8 kk, .slice so n cp] w fun e w' => ∃ v g, e = .returned v ∧ Fil w' v (m % 700 + 1) (kk % 8 + 1) ((m % 700 + 64) / 64) g ∧ Below w.heap.size w w' := by
  obtain ⟨i0, hi, hz0, hz1, hz2⟩ := info_parts2 info25
  have HI : Hid (Try.prog.info? 25 = some i0 ∧ i0.zero = some (.int .u64 0) ∧ i0.size = 1 ∧ i0.bytes = 8) := ⟨hi, hz0, hz1, hz2⟩
  clear hi hz0 hz1 hz2
  have HW := Lib.hid hw
  have hncp := hw.1
  have hcast1 : (m : Int) % 700 = ((m % 700 : Nat) : Int) := rfl
  have hcast2 : (kk : Int) % 8 = ((kk % 8 : Nat) : Int) := rfl
  obtain ⟨x, hxe⟩ : ∃ i, i = m % 700 := ⟨_, rfl⟩
  obtain ⟨y, hye⟩ : ∃ i, i = kk % 8 := ⟨_, rfl⟩
  have hx7 : x < 700 := by omega
  have hy8 : y < 8 := by omega
  rw [← hxe] at hcast1 ⊢
  rw [← hye] at hcast2 ⊢
  obtain ⟨M, hM⟩ : ∃ M, M = x + 1 := ⟨_, rfl⟩
  obtain ⟨K, hK⟩ : ∃ K, K = y + 1 := ⟨_, rfl⟩
  obtain ⟨N, hN⟩ : ∃ N, N = (x + 64) / 64 := ⟨_, rfl⟩
  rw [← hM, ← hK, ← hN]
  have hM1 : (1 : Int) + (x : Int) = (M : Int) := by omega
  have hK1 : (1 : Int) + (y : Int) = (K : Int) := by omega
  have hN1 : ((M : Int) + 63) / 64 = (N : Int) := by omega
  have hN12 : N ≤ 12 := by omega
  have hN0 : 0 < N := by omega
  have HMN : Hid (∀ i, i < N → 64 * i < M) := fun i hi => by omega
  have HC : Hid ((m : Int) % 700 = (x : Int) ∧ (kk : Int) % 8 = (y : Int) ∧ (1 : Int) + (x : Int) = (M : Int) ∧ (1 : Int) + (y : Int) = (K : Int)) := ⟨hcast1, hcast2, hM1, hK1⟩
  have HN1 := Lib.hid hN1
  have hM7 : M ≤ 700 := by omega
  clear hxe hye hM hK hN hw hx7 hy8 hN1
  go_enter Try.func12, Try.ntmps12
  go_wp2_with fail
  clear hcast1 hcast2 hM1 hK1
  have H0 : Hid (Blk ((w.alloc (.cells #[.int .u64 0, .int .u64 0, .slice none 0 0] 27)).alloc (.cells #[.int .u64 (M : Nat), .int .u64 (K : Nat), .slice none 0 0] 27)) w.heap.size #[.int .u64 0, .int .u64 0, .slice none 0 0] 27 ∧
      Blk ((w.alloc (.cells #[.int .u64 0, .int .u64 0, .slice none 0 0] 27)).alloc (.cells #[.int .u64 (M : Nat), .int .u64 (K : Nat), .slice none 0 0] 27)) (w.heap.size + 1) #[.int .u64 (M : Nat), .int .u64 (K : Nat), .slice none 0 0] 27 ∧
      Below w.heap.size w ((w.alloc (.cells #[.int .u64 0, .int .u64 0, .slice none 0 0] 27)).alloc (.cells #[.int .u64 (M : Nat), .int .u64 (K : Nat), .slice none 0 0] 27))) := by
    have h1 := Blk.new (w.alloc (.cells #[.int .u64 0, .int .u64 0, .slice none 0 0] 27)) #[.int .u64 (M : Nat), .int .u64 (K : Nat), .slice none 0 0] 27
    simp at h1
    exact ⟨(Blk.new w _ _).alloc _, h1, ((Below.refl _ _).alloc (Nat.le_refl _) _).alloc (by simp) _⟩
  generalize ((w.alloc (.cells #[.int .u64 0, .int .u64 0, .slice none 0 0] 27)).alloc (.cells #[.int .u64 (M : Nat), .int .u64 (K : Nat), .slice none 0 0] 27)) = w1 at H0 ⊢
  go_loopw [8] (fun iv wr => ∃ (i : Nat) (ws : List Nat) (v : Value), i ≤ N ∧ iv = .int .u64 i ∧ ws.length = i ∧ Hid ((∀ z ∈ ws, z < 18446744073709551616) ∧ Blk wr w.heap.size #[.int .u64 0, .int .u64 0, .slice none 0 0] 27 ∧ Blk wr (w.heap.size + 1) #[.int .u64 (M : Nat), .int .u64 (K : Nat), v] 27 ∧
      wr.ownsRow (w.heap.size + 2) 25 1 v i (ws.map fun z : Nat => Value.int .u64 (z : Int)) ∧ Below w.heap.size w wr)) (fun iv _ => N - (intOf iv).toNat)
  case atStart => exact ⟨0, [], _, by omega, rfl, rfl, fun z hz => absurd hz (by simp), H0.out.1, H0.out.2.1, World.ownsRow_nil _ _ _ _, H0.out.2.2⟩
  case round =>
    obtain ⟨i, ws, v, hi, rfl, hwl, hR⟩ := hrel
    have HR : Hid ((∀ z ∈ ws, z < 18446744073709551616) ∧ Blk wr w.heap.size #[.int .u64 0, .int .u64 0, .slice none 0 0] 27 ∧ Blk wr (w.heap.size + 1) #[.int .u64 (M : Nat), .int .u64 (K : Nat), v] 27 ∧
      wr.ownsRow (w.heap.size + 2) 25 1 v i (ws.map fun z : Nat => Value.int .u64 (z : Int)) ∧ Below w.heap.size w wr) := hR
    clear hR
    have g0 : wr.cell? ⟨w.heap.size + 1, 0, none⟩ = some (.int .u64 (M : Nat)) := HR.out.2.2.1.cell rfl
    have g1 : wr.cell? ⟨w.heap.size + 1, 1, none⟩ = some (.int .u64 (K : Nat)) := HR.out.2.2.1.cell rfl
    have g2 : wr.cell? ⟨w.heap.size + 1, 2, none⟩ = some v := HR.out.2.2.1.cell rfl
    have e2 := HR.out.2.2.1.free 2
    have hN1 := HN1.out
    by_cases hiN : i < N
    · have hleft := HMN.out i hiN
      obtain ⟨left, hl⟩ : ∃ l, l = M - 64 * i := ⟨_, rfl⟩
      have hl1 : (M : Int) - 64 * (i : Int) = (left : Int) := by omega
      have hl0 : 0 < left := by omega
      clear hl
      by_cases hin : i < n
      · obtain ⟨b, o, hso, hc⟩ := HW.out.2.2 (by omega)
        subst hso
        have c0 : wr.cell? ⟨b, o + i, none⟩ = some (.int .u64 (f i : Nat)) := (HR.out.2.2.2.2.cell (cell_lt (hc i hin))).trans (hc i hin)
        have hfi := HW.out.2.1 i
        clear hc
        by_cases hl64 : left < 64
        · have HV : Hid (∃ z : Nat, z < 18446744073709551616 ∧ bits BinOp.and IntKind.u64 ((f i : Nat) : Int) (IntKind.u64.wrap (IntKind.u64.wrap (2 ^ left) - 1)) = (z : Int)) := mask_nat _ _ hfi hl64
          go_wp2_with (at_builtin; go_must (refine wpList_append_own_at _ rfl _ _ 22 rfl (w.heap.size + 2) 25 i0 (.int .u64 0) 1 8 Try.underlying22 HI.out.1 HI.out.2.1 HI.out.2.2.1 HI.out.2.2.2 rfl (by decide) _ _ _ rfl (HR.out.2.2.2.1.alloc _) ⟨wr.heap.size, 0, none⟩ 1 1 [.int .u64 (bits BinOp.and IntKind.u64 ((f i : Nat) : Int) (IntKind.u64.wrap (IntKind.u64.wrap (2 ^ left) - 1)))] rfl rfl ?c1 ?c2 ?c3 ?c4 ?c5 ?_))
          case c1 => exact cellnew1 _ _ _ _ rfl
          case c2 => intro u hu; simp at hu; subst hu; rfl
          case c3 => unfold maxLen; omega
          case c4 => omega
          case c5 => have := HR.out.2.2.1.lt; simp; omega
          intro v' w3 hown' hgrow _ hblk
          obtain ⟨z, hz, hV⟩ := HV.out
          rw [hV] at hown' ⊢
          obtain ⟨so, cp, rfl⟩ := own_shape hown'
          have hba : Below (w.heap.size + 2) wr w3 := own_grown HR.out.2.2.2.1 hgrow (by have := HR.out.2.2.1.lt; omega)
          have q2 := HR.out.2.2.1.below hba (by omega)
          have e1 := q2.free 2
          have e3 : w3.cell? ⟨w.heap.size + 1, 2, none⟩ = some v := q2.cell rfl
          have HQ : Hid ((∀ z' ∈ ws ++ [z], z' < 18446744073709551616) ∧ Blk w3 w.heap.size #[.int .u64 0, .int .u64 0, .slice none 0 0] 27 ∧ Blk w3 (w.heap.size + 1) #[.int .u64 (M : Nat), .int .u64 (K : Nat), v] 27 ∧
              w3.ownsRow (w.heap.size + 2) 25 1 (.slice so (i + 1) cp) (i + 1) ((ws ++ [z]).map fun z : Nat => Value.int .u64 (z : Int)) ∧ Below w.heap.size w w3) :=
            ⟨fun z' hz' => by
              rcases List.mem_append.1 hz' with h | h
              · exact HR.out.1 z' h
              · simp at h; rw [h]; exact hz, HR.out.2.1.below hba (by omega), q2, by simpa using hown', HR.out.2.2.2.2.trans (hba.mono (by omega))⟩
          clear hba q2 hown' hgrow hblk g0 g1 g2 e2 hz hV HV
          go_wp2_with fail
          go_roundw
          case rel => exact ⟨i + 1, ws ++ [z], _, by omega, by go_num, by simp; omega, HQ.out.1, HQ.out.2.1.other (by simp) _, HQ.out.2.2.1.set 2 _, ownsRow_setCell_below HQ.out.2.2.2.1 (a := ⟨w.heap.size + 1, 2, none⟩) (by simp) _, HQ.out.2.2.2.2.setCell (by simp) _⟩
          case measure => simp [intOf]; omega
        · have HV : Hid (∃ z : Nat, z < 18446744073709551616 ∧ ((f i : Nat) : Int) = (z : Int)) := ⟨_, hfi, rfl⟩
          go_wp2_with (at_builtin; go_must (refine wpList_append_own_at _ rfl _ _ 22 rfl (w.heap.size + 2) 25 i0 (.int .u64 0) 1 8 Try.underlying22 HI.out.1 HI.out.2.1 HI.out.2.2.1 HI.out.2.2.2 rfl (by decide) _ _ _ rfl (HR.out.2.2.2.1.alloc _) ⟨wr.heap.size, 0, none⟩ 1 1 [.int .u64 (((f i : Nat) : Int))] rfl rfl ?c1 ?c2 ?c3 ?c4 ?c5 ?_))
          case c1 => exact cellnew1 _ _ _ _ rfl
          case c2 => intro u hu; simp at hu; subst hu; rfl
          case c3 => unfold maxLen; omega
          case c4 => omega
          case c5 => have := HR.out.2.2.1.lt; simp; omega
          intro v' w3 hown' hgrow _ hblk
          obtain ⟨z, hz, hV⟩ := HV.out
          rw [hV] at hown' ⊢
          obtain ⟨so, cp, rfl⟩ := own_shape hown'
          have hba : Below (w.heap.size + 2) wr w3 := own_grown HR.out.2.2.2.1 hgrow (by have := HR.out.2.2.1.lt; omega)
          have q2 := HR.out.2.2.1.below hba (by omega)
          have e1 := q2.free 2
          have e3 : w3.cell? ⟨w.heap.size + 1, 2, none⟩ = some v := q2.cell rfl
          have HQ : Hid ((∀ z' ∈ ws ++ [z], z' < 18446744073709551616) ∧ Blk w3 w.heap.size #[.int .u64 0, .int .u64 0, .slice none 0 0] 27 ∧ Blk w3 (w.heap.size + 1) #[.int .u64 (M : Nat), .int .u64 (K : Nat), v] 27 ∧
              w3.ownsRow (w.heap.size + 2) 25 1 (.slice so (i + 1) cp) (i + 1) ((ws ++ [z]).map fun z : Nat => Value.int .u64 (z : Int)) ∧ Below w.heap.size w w3) :=
            ⟨fun z' hz' => by
              rcases List.mem_append.1 hz' with h | h
              · exact HR.out.1 z' h
              · simp at h; rw [h]; exact hz, HR.out.2.1.below hba (by omega), q2, by simpa using hown', HR.out.2.2.2.2.trans (hba.mono (by omega))⟩
          clear hba q2 hown' hgrow hblk g0 g1 g2 e2 hz hV HV
          go_wp2_with fail
          go_roundw
          case rel => exact ⟨i + 1, ws ++ [z], _, by omega, by go_num, by simp; omega, HQ.out.1, HQ.out.2.1.other (by simp) _, HQ.out.2.2.1.set 2 _, ownsRow_setCell_below HQ.out.2.2.2.1 (a := ⟨w.heap.size + 1, 2, none⟩) (by simp) _, HQ.out.2.2.2.2.setCell (by simp) _⟩
          case measure => simp [intOf]; omega
      · by_cases hl64 : left < 64
        · have HV : Hid (∃ z : Nat, z < 18446744073709551616 ∧ bits BinOp.and IntKind.u64 (0 : Int) (IntKind.u64.wrap (IntKind.u64.wrap (2 ^ left) - 1)) = (z : Int)) := mask_nat 0 _ (by decide) hl64
          go_wp2_with (at_builtin; go_must (refine wpList_append_own_at _ rfl _ _ 22 rfl (w.heap.size + 2) 25 i0 (.int .u64 0) 1 8 Try.underlying22 HI.out.1 HI.out.2.1 HI.out.2.2.1 HI.out.2.2.2 rfl (by decide) _ _ _ rfl (HR.out.2.2.2.1.alloc _) ⟨wr.heap.size, 0, none⟩ 1 1 [.int .u64 (bits BinOp.and IntKind.u64 (0 : Int) (IntKind.u64.wrap (IntKind.u64.wrap (2 ^ left) - 1)))] rfl rfl ?c1 ?c2 ?c3 ?c4 ?c5 ?_))
          case c1 => exact cellnew1 _ _ _ _ rfl
          case c2 => intro u hu; simp at hu; subst hu; rfl
          case c3 => unfold maxLen; omega
          case c4 => omega
          case c5 => have := HR.out.2.2.1.lt; simp; omega
          intro v' w3 hown' hgrow _ hblk
          obtain ⟨z, hz, hV⟩ := HV.out
          rw [hV] at hown' ⊢
          obtain ⟨so, cp, rfl⟩ := own_shape hown'
          have hba : Below (w.heap.size + 2) wr w3 := own_grown HR.out.2.2.2.1 hgrow (by have := HR.out.2.2.1.lt; omega)
          have q2 := HR.out.2.2.1.below hba (by omega)
          have e1 := q2.free 2
          have e3 : w3.cell? ⟨w.heap.size + 1, 2, none⟩ = some v := q2.cell rfl
          have HQ : Hid ((∀ z' ∈ ws ++ [z], z' < 18446744073709551616) ∧ Blk w3 w.heap.size #[.int .u64 0, .int .u64 0, .slice none 0 0] 27 ∧ Blk w3 (w.heap.size + 1) #[.int .u64 (M : Nat), .int .u64 (K : Nat), v] 27 ∧
              w3.ownsRow (w.heap.size + 2) 25 1 (.slice so (i + 1) cp) (i + 1) ((ws ++ [z]).map fun z : Nat => Value.int .u64 (z : Int)) ∧ Below w.heap.size w w3) :=
            ⟨fun z' hz' => by
              rcases List.mem_append.1 hz' with h | h
              · exact HR.out.1 z' h
              · simp at h; rw [h]; exact hz, HR.out.2.1.below hba (by omega), q2, by simpa using hown', HR.out.2.2.2.2.trans (hba.mono (by omega))⟩
          clear hba q2 hown' hgrow hblk g0 g1 g2 e2 hz hV HV
          go_wp2_with fail
          go_roundw
          case rel => exact ⟨i + 1, ws ++ [z], _, by omega, by go_num, by simp; omega, HQ.out.1, HQ.out.2.1.other (by simp) _, HQ.out.2.2.1.set 2 _, ownsRow_setCell_below HQ.out.2.2.2.1 (a := ⟨w.heap.size + 1, 2, none⟩) (by simp) _, HQ.out.2.2.2.2.setCell (by simp) _⟩
          case measure => simp [intOf]; omega
        · have HV : Hid (∃ z : Nat, z < 18446744073709551616 ∧ (0 : Int) = (z : Int)) := ⟨0, by decide, rfl⟩
          go_wp2_with (at_builtin; go_must (refine wpList_append_own_at _ rfl _ _ 22 rfl (w.heap.size + 2) 25 i0 (.int .u64 0) 1 8 Try.underlying22 HI.out.1 HI.out.2.1 HI.out.2.2.1 HI.out.2.2.2 rfl (by decide) _ _ _ rfl (HR.out.2.2.2.1.alloc _) ⟨wr.heap.size, 0, none⟩ 1 1 [.int .u64 ((0 : Int))] rfl rfl ?c1 ?c2 ?c3 ?c4 ?c5 ?_))
          case c1 => exact cellnew1 _ _ _ _ rfl
          case c2 => intro u hu; simp at hu; subst hu; rfl
          case c3 => unfold maxLen; omega
          case c4 => omega
          case c5 => have := HR.out.2.2.1.lt; simp; omega
          intro v' w3 hown' hgrow _ hblk
          obtain ⟨z, hz, hV⟩ := HV.out
          rw [hV] at hown' ⊢
          obtain ⟨so, cp, rfl⟩ := own_shape hown'
          have hba : Below (w.heap.size + 2) wr w3 := own_grown HR.out.2.2.2.1 hgrow (by have := HR.out.2.2.1.lt; omega)
          have q2 := HR.out.2.2.1.below hba (by omega)
          have e1 := q2.free 2
          have e3 : w3.cell? ⟨w.heap.size + 1, 2, none⟩ = some v := q2.cell rfl
          have HQ : Hid ((∀ z' ∈ ws ++ [z], z' < 18446744073709551616) ∧ Blk w3 w.heap.size #[.int .u64 0, .int .u64 0, .slice none 0 0] 27 ∧ Blk w3 (w.heap.size + 1) #[.int .u64 (M : Nat), .int .u64 (K : Nat), v] 27 ∧
              w3.ownsRow (w.heap.size + 2) 25 1 (.slice so (i + 1) cp) (i + 1) ((ws ++ [z]).map fun z : Nat => Value.int .u64 (z : Int)) ∧ Below w.heap.size w w3) :=
            ⟨fun z' hz' => by
              rcases List.mem_append.1 hz' with h | h
              · exact HR.out.1 z' h
              · simp at h; rw [h]; exact hz, HR.out.2.1.below hba (by omega), q2, by simpa using hown', HR.out.2.2.2.2.trans (hba.mono (by omega))⟩
          clear hba q2 hown' hgrow hblk g0 g1 g2 e2 hz hV HV
          go_wp2_with fail
          go_roundw
          case rel => exact ⟨i + 1, ws ++ [z], _, by omega, by go_num, by simp; omega, HQ.out.1, HQ.out.2.1.other (by simp) _, HQ.out.2.2.1.set 2 _, ownsRow_setCell_below HQ.out.2.2.2.1 (a := ⟨w.heap.size + 1, 2, none⟩) (by simp) _, HQ.out.2.2.2.2.setCell (by simp) _⟩
          case measure => simp [intOf]; omega
    · have hNk : N = i := by omega
      obtain ⟨so, cp, rfl⟩ := own_shape HR.out.2.2.2.1
      have r0 : wr.cell? ⟨w.heap.size, 0, none⟩ = some (.int .u64 0) := HR.out.2.1.cell rfl
      have r1 : wr.cell? ⟨w.heap.size, 1, none⟩ = some (.int .u64 0) := HR.out.2.1.cell rfl
      have r2 : wr.cell? ⟨w.heap.size, 2, none⟩ = some (.slice none 0 0) := HR.out.2.1.cell rfl
      have f0' := HR.out.2.1.free 0
      have f1' := HR.out.2.1.free 1
      have f2' := HR.out.2.1.free 2
      subst hNk
      go_wp2_with fail
      obtain ⟨hl, h1 | ⟨g, cap, cur, hv, hg, hh, hnn, hmm, hs, ht⟩⟩ := HR.out.2.2.2.1
      · omega
      simp only [Value.slice.injEq] at hv
      obtain ⟨rfl, _, rfl⟩ := hv
      have hrow : Row wr g N (fun i => ws.getD i 0) := ⟨cur, _, hh, fun i hi => by
        have h3 : (cur.toList.take (N * 1))[i]? = (ws.map fun z : Nat => Value.int .u64 (z : Int))[i]? := by rw [ht]
        rw [List.getElem?_take, if_pos (by omega), Array.getElem?_toList] at h3
        rw [h3]
        simp [show i < ws.length by omega]⟩
      have hgw : g ≠ w.heap.size := by omega
      have s0 := ((HR.out.2.1.set 0 (.int .u64 (M : Nat))).set 1 (.int .u64 (K : Nat))).set 2 (.slice (some ⟨g, 0, none⟩) N cp)
      have hbl := ((HR.out.2.2.2.2.setCell (p := ⟨w.heap.size, 0, none⟩) (Nat.le_refl _) (.int .u64 (M : Nat))).setCell (p := ⟨w.heap.size, 1, none⟩) (Nat.le_refl _) (.int .u64 (K : Nat))).setCell (p := ⟨w.heap.size, 2, none⟩) (Nat.le_refl _) (.slice (some ⟨g, 0, none⟩) N cp)
      have d0 := s0.cell (i := 0) (v := .int .u64 (M : Nat)) (by simp)
      have d1 := s0.cell (i := 1) (v := .int .u64 (K : Nat)) (by simp)
      have d2 := s0.cell (i := 2) (v := .slice (some ⟨g, 0, none⟩) N cp) (by simp)
      have hrow2 := ((hrow.other hgw 0 (.int .u64 (M : Nat))).other hgw 1 (.int .u64 (K : Nat))).other hgw 2 (.slice (some ⟨g, 0, none⟩) N cp)
      refine bodyPost_ret (v := .agg #[.int .u64 (M : Nat), .int .u64 (K : Nat), .slice (some ⟨g, 0, none⟩) N cp]) ?_ rfl ⟨_, fun i => ws.getD i 0, rfl, ⟨_, rfl, hrow2.wds hnn, fun i => ?_⟩, hbl⟩
      · simp [results, Try.results12, go_sem, d0, d1, d2]
      · by_cases h : i < ws.length
        · exact HR.out.1 _ (by simp only [List.getD_eq_getElem?_getD, List.getElem?_eq_getElem h]; simp)
        · show ws.getD i 0 < _
          rw [List.getD_eq_getElem?_getD, List.getElem?_eq_none (by omega)]
          decide
end Go.Proofs.Ytbkodehcjhpcmaa
