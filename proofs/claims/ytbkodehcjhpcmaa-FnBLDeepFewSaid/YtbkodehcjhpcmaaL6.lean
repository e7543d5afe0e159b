/- A bitset of whole words in memory: testing, setting, counting words. -/
import Derived.Test.YtbkodehcjhpcmaaHeapKit
import Derived.Test.YtbkodehcjhpcmaaWordBits
import Derived.Test.YtbkodehcjhpcmaaRows
import Derived.WalkSpells
import Derived.WalkLawsBesides
import Derived.Recover
import Derived.StillTailTactics
import Derived.Maps.AppendAt
namespace Go.Proofs.Ytbkodehcjhpcmaa
open Go.RowKit

theorem cap_any (w : World) : Calls Try.prog 64 #[] w fun e w' => e = .returned (.int .u64 18446744073709551615) ∧ w = w' := by
  go_enter Try.func64, Try.ntmps64
  go_wp2
  go_ret
  exact ⟨rfl, rfl⟩
theorem needed_any (n : Nat) (w : World) (hn : n ≤ 1000) :
    Calls Try.prog 56 #[.int .u64 ((64 * n : Nat) : Int)] w fun e w' => e = .returned (.int .i64 (n : Int)) ∧ w = w' := by
  obtain ⟨l, hl⟩ : ∃ l, l = 64 * n := ⟨_, rfl⟩
  rw [← hl]
  have HL := Lib.hid hl
  have hl2 : l ≤ 64000 := by omega
  clear hl
  go_enter Try.func56, Try.ntmps56
  go_wp2_with fail
  refine (cap_any _).mono ?_; rintro e w' ⟨rfl, rfl⟩
  go_wp2
  go_ret
  exact ⟨retI (by have := HL.out; omega), rfl⟩
theorem unbound_any (n : Nat) (w : World) (hn : n ≤ 1000) :
    Calls Try.prog 58 #[.int .u64 ((64 * n : Nat) : Int)] w fun e w' => e = .returned (.int .i64 (n : Int)) ∧ w = w' := by
  obtain ⟨l, hl⟩ : ∃ l, l = 64 * n := ⟨_, rfl⟩
  rw [← hl]
  have HL := Lib.hid hl
  have hl2 : l ≤ 64000 := by omega
  clear hl
  go_enter Try.func58, Try.ntmps58
  go_wp2_with fail
  go_ret
  exact ⟨retI (by have := HL.out; omega), rfl⟩
theorem and63 (n : Nat) (hn : n < 18446744073709551616) : bits BinOp.and IntKind.u64 (n : Int) 63 = ((n % 64 : Nat) : Int) := by
  rw [show (63 : Int) = ((63 : Nat) : Int) from rfl, u64_and_nat _ _ hn (by decide), nat_mask6]
theorem wordsIndex_any (n : Nat) (w : World) (hn : n < 18446744073709551616) :
    Calls Try.prog 51 #[.int .u64 n] w fun e w' => e = .returned (.int .u64 ((n % 64 : Nat) : Int)) ∧ w = w' := by
  go_enter Try.func51, Try.ntmps51
  go_wp2
  go_ret
  exact ⟨retI (and63 n hn), rfl⟩
theorem panicIfNull_any (p : Addr) (w : World) :
    Calls Try.prog 54 #[.pointer (some p)] w fun e w' => e = .returned (.tuple #[]) ∧ w = w' := by
  go_enter Try.func54, Try.ntmps54
  go_wp2_with fail
  go_end0
  exact ⟨rfl, rfl⟩

/-- A bitset of n whole words f. -/
structure RS (w : World) (p b n c : Nat) (f : Nat → Nat) : Prop where
  st : ∃ T, Blk w p #[.int .u64 ((64 * n : Nat) : Int), .slice (some ⟨b, 0, none⟩) n c] T
  row : ∃ cur T, Blk w b cur T ∧ ∀ i, i < n → cur[i]? = some (.int .u64 (f i : Nat))
  nc : n ≤ c
  ne : p ≠ b
  small : ∀ i, f i < 18446744073709551616
section
variable {w w' : World} {p b n c : Nat} {f : Nat → Nat}
theorem RS.len_cell (h : RS w p b n c f) : w.cell? ⟨p, 0, none⟩ = some (.int .u64 ((64 * n : Nat) : Int)) := by obtain ⟨T, h⟩ := h.st; exact h.cell rfl
theorem RS.set_cell (h : RS w p b n c f) : w.cell? ⟨p, 1, none⟩ = some (.slice (some ⟨b, 0, none⟩) n c) := by obtain ⟨T, h⟩ := h.st; exact h.cell rfl
theorem RS.plt (h : RS w p b n c f) : p < w.heap.size := by obtain ⟨T, h⟩ := h.st; exact h.lt
theorem RS.blt (h : RS w p b n c f) : b < w.heap.size := by obtain ⟨cur, T, h, _⟩ := h.row; exact h.lt
theorem RS.word (h : RS w p b n c f) {i : Nat} (hi : i < n) : w.cell? ⟨b, i, none⟩ = some (.int .u64 (f i : Nat)) := by obtain ⟨cur, T, h, r⟩ := h.row; exact h.cell (r i hi)
theorem RS.free (h : RS w p b n c f) (i : Nat) : w.frozen? ⟨b, i, none⟩ = false := by obtain ⟨cur, T, h, r⟩ := h.row; exact h.free i
theorem RS.only {M : List Nat} (h : RS w p b n c f) (ho : Only M w w') (hp : p ∉ M) (hb : b ∉ M) : RS w' p b n c f := by
  obtain ⟨T, h1⟩ := h.st
  obtain ⟨cur, T2, h2, r⟩ := h.row
  exact ⟨⟨T, h1.only ho hp⟩, ⟨cur, T2, h2.only ho hb, r⟩, h.nc, h.ne, h.small⟩
theorem RS.below (h : RS w p b n c f) (ho : Below w.heap.size w w') : RS w' p b n c f := h.only (M := []) (Only.of_below ho) (by simp) (by simp)
theorem RS.drewN (h : RS w p b n c f) (k : Nat) : RS (w.drewN k) p b n c f := ⟨h.st, h.row, h.nc, h.ne, h.small⟩
theorem RS.store (h : RS w p b n c f) {k v : Nat} (hv : v < 18446744073709551616) : RS (w.setCell ⟨b, k, none⟩ (.int .u64 (v : Nat))) p b n c (upd f k v) := by
  obtain ⟨T, h1⟩ := h.st
  obtain ⟨cur, T2, h2, r⟩ := h.row
  refine ⟨⟨T, h1.other (fun e => h.ne e.symm) _⟩, ⟨_, T2, h2.set k _, fun i hi => ?_⟩, h.nc, h.ne, fun i => ?_⟩
  · rw [Array.getElem?_setIfInBounds]
    have hlt : i < cur.size := (Array.getElem?_eq_some_iff.1 (r i hi)).1
    by_cases e : k = i
    · rw [if_pos e, if_pos (by omega), e, upd_same]
    · rw [if_neg e, upd_other _ _ _ _ (fun h => e h.symm)]; exact r i hi
  · unfold upd; split
    · exact hv
    · exact h.small i
end

theorem wordCount_any {w : World} {p b n c : Nat} {f : Nat → Nat} (h : RS w p b n c f) (hn : n ≤ 1000) :
    Calls Try.prog 49 #[.pointer (some ⟨p, 0, none⟩)] w fun e w' => e = .returned (.int .i64 (n : Int)) ∧ w = w' := by
  have h0 := h.len_cell
  clear h
  go_enter Try.func49, Try.ntmps49
  go_wp2_with fail
  refine (unbound_any n _ hn).mono ?_; rintro e w' ⟨rfl, rfl⟩
  go_wp2_with fail
  go_ret
  exact ⟨rfl, rfl⟩

set_option maxRecDepth 100000 in
set_option maxHeartbeats 1000000 in
theorem test_any {w : World} {p b n c : Nat} {f : Nat → Nat} (h : RS w p b n c f) (hn : n ≤ 1000) (i : Nat) (hi : i < 64 * n) :
    Calls Try.prog 40 #[.pointer (some ⟨p, 0, none⟩), .int .u64 i] w fun e w' => e = .returned (.bool (bit f i)) ∧ ∃ k, w' = w.drewN k := by
  have h0 := h.len_cell
  have h1 := h.set_cell
  have H := Lib.hid h
  have hin : i / 64 < n := by omega
  have h2 := h.word hin
  obtain ⟨l, hl⟩ : ∃ l, l = 64 * n := ⟨_, rfl⟩
  have hl2 : l ≤ 64000 := by omega
  rw [← hl] at h0 hi
  clear h hl
  go_enter Try.func40, Try.ntmps40
  go_wp2_with fail
  go_quiet ((go_at_call 51; refine Calls.quiet_of_same ((wordsIndex_any _ _ (by omega)).mono fun _ _ ⟨he, hw⟩ => ⟨he, hw.symm⟩)))
  go_wp2_with fail
  go_ret
  refine ⟨retB ?_, nq, rfl⟩
  exact tb_and _ _ (H.out.small _) (Nat.mod_lt _ (by decide))

set_option maxRecDepth 100000 in
set_option maxHeartbeats 1000000 in
theorem set_any {w : World} {p b n c : Nat} {f : Nat → Nat} (h : RS w p b n c f) (hn : n ≤ 1000) (i : Nat) (hi : i < 64 * n) :
    Calls Try.prog 42 #[.pointer (some ⟨p, 0, none⟩), .int .u64 i] w fun e w' => e = .returned (.pointer (some ⟨p, 0, none⟩)) ∧
      RS w' p b n c (upd f (i / 64) (orBit (f (i / 64)) (i % 64))) ∧ Only [b] w w' := by
  have h0 := h.len_cell
  have h1 := h.set_cell
  have hin : i / 64 < n := by omega
  have h2 := h.word hin
  have h3 := h.free (i / 64)
  have H := Lib.hid h
  obtain ⟨l, hl⟩ : ∃ l, l = 64 * n := ⟨_, rfl⟩
  have hl2 : l ≤ 64000 := by omega
  rw [← hl] at h0 hi
  clear h hl
  go_enter Try.func42, Try.ntmps42
  go_wp2_with fail
  have k0 : (0 : Int) ≤ (i : Int) / 64 := by omega
  have k1 : (i : Int) / 64 < (n : Int) := by omega
  have k2 : ((i : Int) / 64).toNat = i / 64 := by omega
  have k3 : ((i : Int) % 64).toNat = i % 64 := by omega
  refine wp_region_still_tail 13 (by kernel_rfl) (by kernel_rfl) ?_
  simp only [List.take_succ_cons, List.take_zero, List.drop_succ_cons, List.drop_zero]
  repeat still_step
  still_call ((wordsIndex_any _ _ (by omega)).mono fun _ _ ⟨he, hw⟩ => ⟨he, hw.symm⟩)
  repeat still_step
  refine wpStill_nil ?_
  change wpList _ _ _ _ _ w.drew
  have HE := Lib.hid (or_bit (f (i / 64)) (i % 64) (H.out.small _) (Nat.mod_lt _ (by decide)))
  rw [HE.out]
  go_wp2_with fail
  go_ret
  exact ⟨rfl, (H.out.drewN 1).store (orBit_lt _ _ (H.out.small _) (Nat.mod_lt _ (by decide))), ((Only.refl [b] w).drewN 1).setCell (Or.inl (by simp)) _⟩

/-- The bits after one was set. -/
theorem set_bit (f : Nat → Nat) (i j : Nat) : bit (upd f (i / 64) (orBit (f (i / 64)) (i % 64))) j = (bit f j || decide (i = j)) := by
  unfold bit upd
  by_cases h : j / 64 = i / 64
  · rw [if_pos h, orBit_tb, h]
    congr 1
    simp only [decide_eq_decide]
    omega
  · rw [if_neg h]
    have : i ≠ j := fun e => h (by rw [e])
    simp [this]
end Go.Proofs.Ytbkodehcjhpcmaa
