/- Setting a bit, and making a bitset of plain data. -/
import Derived.Test.YtbkodehcjhpcmaaQ3
namespace Go.Proofs.Ytbkodehcjhpcmaa.Q
open Go.RowKit

theorem set_bit {w : World} {p b n c len : Nat} {f : Nat → Nat} (_h : BSet w p b n c len f) (i : Nat) (hi : i < len) (j : Nat) :
    (decide (j < len) && bit (upd f (i / 64) (orBit (f (i / 64)) (i % 64))) j) = ((decide (j < len) && bit f j) || decide (i = j)) := by
  unfold bit upd
  by_cases hw : j / 64 = i / 64
  · rw [if_pos hw, orBit_tb, hw]
    by_cases e : i = j
    · subst e; simp [hi]
    · have : ¬ i % 64 = j % 64 := by omega
      simp [e, this]
  · rw [if_neg hw]
    have : ¬ i = j := fun e => hw (by rw [e])
    simp [this]
set_option maxRecDepth 100000 in
set_option maxHeartbeats 400000 in
theorem set_any {w : World} {B p len : Nat} {S : Nat → Bool} (h : Bs w B p len S) (i : Nat) (hl : i < 100000) (hB : B ≤ w.heap.size) :
    Calls Try.prog 42 #[.pointer (some ⟨p, 0, none⟩), .int .u64 i] w fun e w' => e = .returned (.pointer (some ⟨p, 0, none⟩)) ∧
      Bs w' B p (max len (i + 1)) (fun j => S j || decide (i = j)) ∧ Below B w w' := by
  by_cases hi : i < len
  · obtain ⟨b, n, c, f, h1, h2, h3, h4, h5, hS⟩ := h
    refine (set_in h1 i hi (by omega)).mono ?_
    rintro e w' ⟨rfl, g1, g2⟩
    rw [Nat.max_eq_left (by omega)]
    exact ⟨rfl, ⟨b, n, c, _, g1, h2, h3, h4, h5, fun j => by rw [set_bit h1 i hi j, ← hS]⟩, g2.below hB (by simp; omega)⟩
  · have H := Lib.hid h
    obtain ⟨b, n, c, f, h1, h2, h3, h4, h5, hS⟩ := h
    have h0 := h1.len_cell
    clear h1 hS
    rw [Nat.max_eq_right (by omega)]
    go_enter Try.func42, Try.ntmps42
    go_wp2_with fail
    refine (extend_any H.out i (by omega) hl hB).mono ?_
    rintro e w' ⟨rfl, g1, g2⟩
    have HG := Lib.hid g2
    have HL := Lib.hid g1
    obtain ⟨b', n', c', f', q1, q2, q3, q4, q5, qS⟩ := g1
    clear g2 h0
    have h0 := q1.len_cell
    have h1 := q1.set_cell
    have hin : i / 64 < n' := by rw [q1.n_eq]; unfold wn; omega
    have h2 := q1.word hin
    have h3 := q1.wd.free (i / 64)
    have H1 := Lib.hid q1
    have HS := Lib.hid qS
    clear q1 qS
    go_wp2_with fail
    have k0 : (0 : Int) ≤ (i : Int) / 64 := by omega
    have k1 : (i : Int) / 64 < (n' : Int) := by omega
    have k2 : ((i : Int) / 64).toNat = i / 64 := by omega
    have k3 : ((i : Int) % 64).toNat = i % 64 := by omega
    refine wp_region_still_tail 13 (by kernel_rfl) (by kernel_rfl) ?_
    simp only [List.take_succ_cons, List.take_zero, List.drop_succ_cons, List.drop_zero]
    repeat still_step
    still_call ((wordsIndex_any _ _ (by omega)).mono fun _ _ ⟨he, hw⟩ => ⟨he, hw.symm⟩)
    repeat still_step
    refine wpStill_nil ?_
    change wpList _ _ _ _ _ w'.drew
    have HE := Lib.hid (or_bit (f' (i / 64)) (i % 64) (H1.out.small _) (Nat.mod_lt _ (by decide)))
    rw [HE.out]
    go_wp2_with fail
    go_ret
    have g := (H1.out.drewN 1).store (i / 64) _ (orBit_lt _ (i % 64) (H1.out.small _) (Nat.mod_lt _ (by decide))) (fun j hj h1 h2 => by
      rw [orBit_tb, H1.out.clean' hj h1 h2]
      simp; omega)
    refine ⟨rfl, ⟨b', n', c', _, g, q2, q3, q4, q5, fun j => by rw [set_bit H1.out i (by omega) j, ← HS.out]⟩, ?_⟩
    exact HG.out.trans ((((Only.refl [b'] w').drewN 1).setCell (Or.inl (by simp)) _).below (by have := HG.out.size; omega) (by simp; omega))
end Go.Proofs.Ytbkodehcjhpcmaa.Q
