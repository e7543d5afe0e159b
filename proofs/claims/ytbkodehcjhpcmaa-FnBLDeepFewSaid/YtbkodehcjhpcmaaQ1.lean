/- Walks of the bitset's smallest functions. -/
import Derived.Test.YtbkodehcjhpcmaaHeapKit
import Derived.Test.YtbkodehcjhpcmaaWordBits
import Derived.Test.YtbkodehcjhpcmaaRows
import Derived.WalkSpells
import Derived.WalkLawsBesides
import Derived.Recover
namespace Go.Proofs.Ytbkodehcjhpcmaa.Q
open Go.RowKit

set_option maxHeartbeats 400000 in
theorem cap_any (w : World) : Calls Try.prog 64 #[] w fun e w' => e = .returned (.int .u64 18446744073709551615) ∧ w = w' := by
  go_enter Try.func64, Try.ntmps64
  go_wp2
  go_ret
  exact ⟨rfl, rfl⟩

/-- The words that so many bits need. -/
def wn (n : Nat) : Nat := (n + 63) / 64
set_option maxHeartbeats 400000 in
theorem wordsNeeded_any (n : Nat) (w : World) (hn : n ≤ 1000000) :
    Calls Try.prog 56 #[.int .u64 n] w fun e w' => e = .returned (.int .i64 (wn n : Int)) ∧ w = w' := by
  go_enter Try.func56, Try.ntmps56
  go_wp2_with fail
  refine (cap_any _).mono ?_; rintro e w' ⟨rfl, rfl⟩
  go_wp2_with fail
  go_ret
  exact ⟨retI (by unfold wn; omega), rfl⟩
theorem and63 (n : Nat) (hn : n < 18446744073709551616) : bits BinOp.and IntKind.u64 (n : Int) 63 = ((n % 64 : Nat) : Int) := by
  rw [show (63 : Int) = ((63 : Nat) : Int) from rfl, u64_and_nat _ _ hn (by decide), nat_mask6]
set_option maxHeartbeats 400000 in
theorem wordsIndex_any (n : Nat) (w : World) (hn : n < 18446744073709551616) :
    Calls Try.prog 51 #[.int .u64 n] w fun e w' => e = .returned (.int .u64 ((n % 64 : Nat) : Int)) ∧ w = w' := by
  go_enter Try.func51, Try.ntmps51
  go_wp2
  go_ret
  exact ⟨retI (and63 n hn), rfl⟩
set_option maxHeartbeats 400000 in
theorem new1_idle (p : Addr) (w : World) :
    CallsD Try.prog 55 #[.pointer (some p)] .returning w fun e u' w' => e = .returned (.tuple #[]) ∧ u' = .returning ∧ w = w' := by
  refine callsD_of_wpS Try.func55 rfl fun c₀ cs hu => ?_
  apply wpS_seq
  apply wpS_region
  simp [wpOpsS, go_sem, recoverD, hu, Try.ntmps55, Exit.thenS]
  apply wpS_seq
  apply wpS_region
  simp [wpOpsS, go_sem, Exit.thenS]
  refine wpS_cond (t := false) (by simp [Act.eval, Array.replicate]) ?_
  simp only [Bool.false_eq_true, if_false]
  refine wpS_of_wp (wp_skip ?_)
  cases c₀
  simp_all [bodyPostS, results, Try.results55]

/-- A bitset in memory: its two cells at p, its words in the block b, of which n count and c are there. -/
structure BSet (w : World) (p b n c len : Nat) (f : Nat → Nat) : Prop where
  st : ∃ T, Blk w p #[.int .u64 len, .slice (some ⟨b, 0, none⟩) n c] T
  wd : Wd .u64 w b c f
  ne : p ≠ b
  n_eq : n = wn len
  nc : n ≤ c
  small : ∀ i, f i < 18446744073709551616
  clean : ∀ i, len ≤ i → i < 64 * n → (f (i / 64)).testBit (i % 64) = false
section
variable {w w' : World} {p b n c len : Nat} {f : Nat → Nat}
theorem BSet.len_cell (h : BSet w p b n c len f) : w.cell? ⟨p, 0, none⟩ = some (.int .u64 len) := by obtain ⟨T, h⟩ := h.st; exact h.cell rfl
theorem BSet.set_cell (h : BSet w p b n c len f) : w.cell? ⟨p, 1, none⟩ = some (.slice (some ⟨b, 0, none⟩) n c) := by obtain ⟨T, h⟩ := h.st; exact h.cell rfl
theorem BSet.free (h : BSet w p b n c len f) (i : Nat) : w.frozen? ⟨p, i, none⟩ = false := by obtain ⟨T, h⟩ := h.st; exact h.free i
theorem BSet.plt (h : BSet w p b n c len f) : p < w.heap.size := by obtain ⟨T, h⟩ := h.st; exact h.lt
theorem BSet.blt (h : BSet w p b n c len f) : b < w.heap.size := h.wd.lt
theorem BSet.word (h : BSet w p b n c len f) {i : Nat} (hi : i < n) : w.cell? ⟨b, i, none⟩ = some (.int .u64 (f i)) := h.wd.cell (Nat.lt_of_lt_of_le hi h.nc)
theorem BSet.only {M : List Nat} (h : BSet w p b n c len f) (ho : Only M w w') (hp : p ∉ M) (hb : b ∉ M) : BSet w' p b n c len f := by
  obtain ⟨T, h1⟩ := h.st
  exact ⟨⟨T, h1.only ho hp⟩, h.wd.only ho hb, h.ne, h.n_eq, h.nc, h.small, h.clean⟩
theorem BSet.below {B : Nat} (h : BSet w p b n c len f) (ho : Below B w w') (hp : p < B) (hb : b < B) : BSet w' p b n c len f := by
  obtain ⟨T, h1⟩ := h.st
  exact ⟨⟨T, h1.below ho hp⟩, h.wd.below ho hb, h.ne, h.n_eq, h.nc, h.small, h.clean⟩
theorem BSet.drewN (h : BSet w p b n c len f) (k : Nat) : BSet (w.drewN k) p b n c len f := h.only (M := []) ((Only.refl _ _).drewN k) (by simp) (by simp)
end

theorem made_cells (n : Nat) : ∀ i, i < n → (madeCells #[Value.int .u64 0] n)[i]? = some (.int .u64 ((0 : Nat) : Int)) := by
  intro i hi
  simp [madeCells, hi, Nat.mod_one]
theorem info69 : (Try.prog.info? 25).map (fun i => (i.zero, i.size, i.bytes)) = some (some (.int .u64 0), 1, 8) := by kernel_rfl
theorem make_u64 (n c : Nat) (w : World) (hn : n ≤ c) (hc : c ≤ 1000000) :
    (Instr.makeSlice 22 (.int .i64 (n : Int)) (.int .i64 (c : Int))).run Try.prog w = .ok (.slice (some ⟨w.heap.size, 0, none⟩) n c) (w.alloc (.cells (madeCells #[.int .u64 0] c) 25)) := by
  obtain ⟨i0, hi, hz0, hz1, hz2⟩ := info_parts info69
  have h := run_make (P := Try.prog) w 22 25 i0 (.int .u64 0) Try.underlying22 hi hz0 .i64 .i64 n c (by omega) (by omega) (by rw [hz2]; omega) (by omega)
  rw [h, hz1]
  simp [Value.cells]

set_option maxHeartbeats 400000 in
theorem new_any (n : Nat) (w : World) (hn : n ≤ 1000000) :
    Calls Try.prog 45 #[.int .u64 n] w fun e w' => ∃ p b, e = .returned (.pointer (some ⟨p, 0, none⟩)) ∧ BSet w' p b (wn n) (wn n) n (fun _ => 0) ∧ Only [] w w' ∧ w.heap.size ≤ p ∧ w.heap.size ≤ b := by
  have hmf : ∀ (fn : Fn) (first cap : Array Value) (w : World), (Instr.makeFunc fn first cap).run Try.prog w = .ok (.func fn first cap) w := fun _ _ _ _ => rfl
  have hmk := fun w => make_u64 (wn n) (wn n) w (Nat.le_refl _) (by unfold wn; omega)
  go_enter_defers Try.func45, Try.ntmps45
  go_wp2_with fail
  refine (wordsNeeded_any _ _ hn).mono ?_; rintro e w' ⟨rfl, rfl⟩
  go_wp2_with fail
  refine leaves_cons (f := 55) (args := #[.pointer (some ⟨w.heap.size, 0, none⟩)]) (by simp) (by simp [go_sem]) ?_
  refine (new1_idle ⟨w.heap.size, 0, none⟩ _).mono ?_
  rintro e u' w'' ⟨rfl, rfl, rfl⟩
  generalize hW : (((w.alloc (Obj.cells #[Value.pointer (some { block := w.heap.size + 1 + 1, off := 0 })] 59)).alloc
        (Obj.cells (madeCells #[Value.int IntKind.u64 0] (wn n)) 25)).alloc
    (Obj.cells #[Value.int IntKind.u64 ↑n, Value.slice (some { block := w.heap.size + 1, off := 0 }) (wn n) (wn n)] 77)) = W
  have b0 : Blk W w.heap.size #[Value.pointer (some { block := w.heap.size + 1 + 1, off := 0 })] 59 := by
    rw [← hW]; exact ((Blk.new _ _ _).alloc _).alloc _
  have b1 : Blk W (w.heap.size + 1) (madeCells #[Value.int IntKind.u64 0] (wn n)) 25 := by
    rw [← hW]; have := Blk.new (w.alloc (Obj.cells #[Value.pointer (some { block := w.heap.size + 1 + 1, off := 0 })] 59)) (madeCells #[Value.int IntKind.u64 0] (wn n)) 25
    simp at this
    exact this.alloc _
  have b2 : Blk W (w.heap.size + 1 + 1) #[Value.int IntKind.u64 ↑n, Value.slice (some { block := w.heap.size + 1, off := 0 }) (wn n) (wn n)] 77 := by
    rw [← hW]; have := Blk.new ((w.alloc (Obj.cells #[Value.pointer (some { block := w.heap.size + 1 + 1, off := 0 })] 59)).alloc (Obj.cells (madeCells #[Value.int IntKind.u64 0] (wn n)) 25)) #[Value.int IntKind.u64 ↑n, Value.slice (some { block := w.heap.size + 1, off := 0 }) (wn n) (wn n)] 77
    simpa using this
  have ho : Only [] w W := by rw [← hW]; exact (((Only.refl _ _).alloc _).alloc _).alloc _
  have hc := b0.cell (i := 0) rfl
  simp [Leaves, settle, results, Try.results45, go_sem, hc]
  exact ⟨_, ⟨⟨_, b2⟩, ⟨_, _, b1, size_madeCells _ _, made_cells _⟩, by omega, rfl, Nat.le_refl _, by simp, by simp⟩, ho, by omega, by omega⟩

set_option maxHeartbeats 400000 in
theorem len_any {w : World} {p b n c len : Nat} {f : Nat → Nat} (h : BSet w p b n c len f) :
    Calls Try.prog 47 #[.pointer (some ⟨p, 0, none⟩)] w fun e w' => e = .returned (.int .u64 len) ∧ w = w' := by
  have h0 := h.len_cell
  go_enter Try.func47, Try.ntmps47
  go_wp2
  go_ret
  exact ⟨rfl, rfl⟩

set_option maxHeartbeats 400000 in
theorem test_any {w : World} {p b n c len : Nat} {f : Nat → Nat} (h : BSet w p b n c len f) (i : Nat) (hl : len ≤ 1000000) (hi : i ≤ 1000000) :
    Calls Try.prog 40 #[.pointer (some ⟨p, 0, none⟩), .int .u64 i] w fun e w' => e = .returned (.bool (decide (i < len) && bit f i)) ∧ ∃ k, w' = w.drewN k := by
  have h0 := h.len_cell
  have h1 := h.set_cell
  have H := Lib.hid h
  by_cases hlt : i < len
  · have hin : i / 64 < n := by rw [H.out.n_eq]; unfold wn; omega
    have h2 := h.word hin
    clear h
    go_enter Try.func40, Try.ntmps40
    go_wp2_with fail
    go_quiet ((go_at_call 51; refine Calls.quiet_of_same ((wordsIndex_any _ _ (by omega)).mono fun _ _ ⟨he, hw⟩ => ⟨he, hw.symm⟩)))
    go_wp2_with fail
    go_ret
    refine ⟨retB ?_, nq, rfl⟩
    rw [decide_eq_true hlt, Bool.true_and]
    exact tb_and _ _ (H.out.small _) (Nat.mod_lt _ (by decide))
  · clear h
    go_enter Try.func40, Try.ntmps40
    go_wp2_with fail
    go_ret
    exact ⟨retB (by simp [hlt]), 0, rfl⟩
end Go.Proofs.Ytbkodehcjhpcmaa.Q
