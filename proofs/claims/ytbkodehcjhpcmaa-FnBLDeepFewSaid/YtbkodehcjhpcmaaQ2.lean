/- Walks of the bitset's functions that write one word. -/
import Derived.Test.YtbkodehcjhpcmaaQ1
import Derived.StillTailTactics
namespace Go.Proofs.Ytbkodehcjhpcmaa.Q
open Go.RowKit

/-- One word is written: the bitset is one with other words. -/
theorem BSet.store {w : World} {p b n c len : Nat} {f : Nat → Nat} (h : BSet w p b n c len f) (k v : Nat) (hv : v < 18446744073709551616)
    (hc : ∀ j, j < 64 → len ≤ 64 * k + j → 64 * k + j < 64 * n → v.testBit j = false) : BSet (w.setCell ⟨b, k, none⟩ (.int .u64 v)) p b n c len (upd f k v) := by
  obtain ⟨T, h1⟩ := h.st
  refine ⟨⟨T, h1.other (fun e => h.ne e.symm) _⟩, h.wd.set k v, h.ne, h.n_eq, h.nc, ?_, ?_⟩
  · intro i; unfold upd; split
    · exact hv
    · exact h.small i
  · intro i hi hn
    unfold upd
    split
    · rename_i e; exact hc _ (Nat.mod_lt _ (by decide)) (by omega) (by omega)
    · exact h.clean i hi hn

theorem BSet.clean' {w : World} {p b n c len : Nat} {f : Nat → Nat} (h : BSet w p b n c len f) {k j : Nat} (hj : j < 64) (h1 : len ≤ 64 * k + j) (h2 : 64 * k + j < 64 * n) : (f k).testBit j = false := by
  have := h.clean (64 * k + j) h1 h2
  rwa [show (64 * k + j) / 64 = k by omega, show (64 * k + j) % 64 = j by omega] at this
set_option maxRecDepth 100000 in
set_option maxHeartbeats 400000 in
theorem set_in {w : World} {p b n c len : Nat} {f : Nat → Nat} (h : BSet w p b n c len f) (i : Nat) (hi : i < len) (hl : len ≤ 1000000) :
    Calls Try.prog 42 #[.pointer (some ⟨p, 0, none⟩), .int .u64 i] w fun e w' => e = .returned (.pointer (some ⟨p, 0, none⟩)) ∧
      BSet w' p b n c len (upd f (i / 64) (orBit (f (i / 64)) (i % 64))) ∧ Only [b] w w' := by
  have h0 := h.len_cell
  have h1 := h.set_cell
  have hin : i / 64 < n := by rw [h.n_eq]; unfold wn; omega
  have h2 := h.word hin
  have h3 := h.wd.free (i / 64)
  have H := Lib.hid h
  clear h
  go_enter Try.func42, Try.ntmps42
  go_wp2_with fail
  have k0 : (0 : Int) ≤ (i : Int) / 64 := by omega
  have k1 : (i : Int) / 64 < (n : Int) := by omega
  have k2 : ((i : Int) / 64).toNat = i / 64 := by omega
  have k3 : ((i : Int) % 64).toNat = i % 64 := by omega
  refine wp_region_still_tail 13 (by kernel_rfl) (by kernel_rfl) ?_
  simp only [List.take_succ_cons, List.take_zero, List.drop_succ_cons, List.drop_zero]
  repeat still_step
  still_call ((wordsIndex_any _ _ (by omega)).mono fun _ _ ⟨he, hw⟩ => ⟨he, hw.symm⟩)
  repeat still_step
  refine wpStill_nil ?_
  change wpList _ _ _ _ _ w.drew
  have HE := Lib.hid (or_bit (f (i / 64)) (i % 64) (H.out.small _) (Nat.mod_lt _ (by decide)))
  rw [HE.out]
  go_wp2_with fail
  go_ret
  refine ⟨rfl, (H.out.drewN 1).store (i / 64) _ (orBit_lt _ _ (H.out.small _) (Nat.mod_lt _ (by decide))) (fun j hj h1 h2 => ?_), ((Only.refl [b] w).drewN 1).setCell (Or.inl (by simp)) _⟩
  rw [orBit_tb, H.out.clean' hj h1 h2]
  simp; omega
end Go.Proofs.Ytbkodehcjhpcmaa.Q
