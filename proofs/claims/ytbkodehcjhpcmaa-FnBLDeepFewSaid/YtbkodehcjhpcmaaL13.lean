/- One filter merged into another one. -/
import Derived.Test.YtbkodehcjhpcmaaL12
namespace Go.Proofs.Ytbkodehcjhpcmaa
open Go.RowKit

def ors (k : Nat) (f g : Nat → Nat) : Nat → Nat := fun i => if i < k then f i ||| g i else f i
theorem ors_zero (f g : Nat → Nat) : ors 0 f g = f := by funext i; simp [ors]
theorem ors_step (k : Nat) (f g : Nat → Nat) : upd (ors k f g) k (f k ||| g k) = ors (k + 1) f g := by
  funext i
  unfold upd ors
  by_cases h : i = k
  · subst h; simp
  · rw [if_neg h]
    by_cases h2 : i < k
    · rw [if_pos h2, if_pos (by omega)]
    · rw [if_neg h2, if_neg (by omega)]
theorem or_I {x y : Nat} (hx : x < 18446744073709551616) (hy : y < 18446744073709551616) : bits BinOp.or IntKind.u64 (x : Int) (y : Int) = ((x ||| y : Nat) : Int) := u64_or_nat x y hx hy
theorem or_lt {x y : Nat} (hx : x < 18446744073709551616) (hy : y < 18446744073709551616) : x ||| y < 18446744073709551616 := Nat.or_lt_two_pow (n := 64) hx hy
theorem ors_bit (n : Nat) (f g : Nat → Nat) (j : Nat) (hj : j < 64 * n) : bit (ors n f g) j = (bit f j || bit g j) := by
  unfold bit ors
  rw [if_pos (by omega), Nat.testBit_or]

set_option maxRecDepth 100000 in
set_option maxHeartbeats 2000000 in
theorem union_any {w : World} {p b p' b' n c c' : Nat} {f g : Nat → Nat} (h1 : RS w p b n c f) (h2 : RS w p' b' n c' g) (hpb : p' ≠ b) (hbb : b' ≠ b) (h0 : 0 < n) (hn : n ≤ 1000) :
    Calls Try.prog 44 #[.pointer (some ⟨p, 0, none⟩), .pointer (some ⟨p', 0, none⟩)] w fun e w' => e = .returned (.tuple #[]) ∧ RS w' p b n c (ors n f g) ∧ Only [b] w w' := by
  have H1 := Lib.hid h1
  have H2 := Lib.hid h2
  have x0 := h1.len_cell
  have x1 := h1.set_cell
  have y0 := h2.len_cell
  have y1 := h2.set_cell
  obtain ⟨l, hl⟩ : ∃ l, l = 64 * n := ⟨_, rfl⟩
  rw [← hl] at x0 y0
  have hl1 : 0 < l := by omega
  have hl2 : l ≤ 64000 := by omega
  clear h1 h2 hl
  go_enter Try.func44, Try.ntmps44
  go_wp2_with fail
  refine (panicIfNull_any _ _).mono ?_; rintro e w' ⟨rfl, rfl⟩
  go_wp2_with fail
  refine (panicIfNull_any _ _).mono ?_; rintro e w' ⟨rfl, rfl⟩
  go_wp2_with fail
  refine (wordCount_any H2.out hn).mono ?_; rintro e w' ⟨rfl, rfl⟩
  go_wp2_with fail
  refine (wordCount_any H1.out hn).mono ?_; rintro e w' ⟨rfl, rfl⟩
  go_wp2_with fail
  have g1 : decide (0 < l) = true := decide_eq_true hl1
  obtain ⟨m, hm⟩ : ∃ m : Nat, m = l - 1 := ⟨_, rfl⟩
  have g2 : (l : Int) - 1 = (m : Int) := by omega
  have g4 : decide (l ≤ m) = false := decide_eq_false (by omega)
  clear hm hl1
  go_quiet (fail)
  clear g1 g2 g4 x0 y0
  have G : Hid (RS (w.drewN nq) p b n c f ∧ RS (w.drewN nq) p' b' n c' g ∧ Only [b] w (w.drewN nq)) := ⟨H1.out.drewN nq, H2.out.drewN nq, (Only.refl _ _).drewN nq⟩
  have x1' : (w.drewN nq).cell? ⟨p, 1, none⟩ = some (.slice (some ⟨b, 0, none⟩) n c) := x1
  have y1' : (w.drewN nq).cell? ⟨p', 1, none⟩ = some (.slice (some ⟨b', 0, none⟩) n c') := y1
  clear x1 y1 H1 H2
  generalize w.drewN nq = w1 at G x1' y1' ⊢
  go_wp2_with fail
  go_quiet (fail)
  have G2 : Hid (RS (w1.drewN nq) p b n c f ∧ RS (w1.drewN nq) p' b' n c' g ∧ Only [b] w (w1.drewN nq)) := ⟨G.out.1.drewN nq, G.out.2.1.drewN nq, G.out.2.2.drewN nq⟩
  clear x1' y1' G
  generalize w1.drewN nq = w2 at G2 ⊢
  obtain ⟨j, hj⟩ : ∃ j : Nat, (j : Int) = (n : Int) - 1 := ⟨n - 1, by omega⟩
  have j1 : (n : Int) - 1 = (j : Int) := hj.symm
  have j2 : j < n := by omega
  have z1 := G2.out.1.word j2
  have z2 := G2.out.2.1.word j2
  clear hj
  go_wp2_with fail
  clear z1 z2 j1 j2
  go_loopw [7] (fun iv wr => ∃ k : Nat, k ≤ n ∧ iv = .int .i64 k ∧ Hid (RS wr p b n c (ors k f g) ∧ RS wr p' b' n c' g ∧ Only [b] w wr)) (fun iv _ => n - (intOf iv).toNat)
  case atStart => exact ⟨0, by omega, rfl, by rw [ors_zero]; exact G2.out⟩
  case round =>
    obtain ⟨k, hk, rfl, hR⟩ := hrel
    have HR : Hid (RS wr p b n c (ors k f g) ∧ RS wr p' b' n c' g ∧ Only [b] w wr) := hR
    clear hR
    by_cases hkn : k < n
    · have c1 := HR.out.2.1.word hkn
      have c2 : wr.cell? ⟨b, k, none⟩ = some (.int .u64 (f k : Nat)) := by
        have := HR.out.1.word hkn
        rwa [show ors k f g k = f k by simp [ors]] at this
      have c3 := HR.out.1.free k
      go_wp2_with fail
      have k0 : (0 : Int) ≤ (k : Int) := by omega
      have k1 : (k : Int) < (n : Int) := by omega
      refine wp_region_still_tail 10 (by kernel_rfl) (by kernel_rfl) ?_
      simp only [List.take_succ_cons, List.take_zero, List.drop_succ_cons, List.drop_zero]
      repeat still_step
      refine wpStill_nil ?_
      change wpList _ _ _ _ _ wr.drew
      have hfk : f k < 18446744073709551616 := by
        have := HR.out.1.small k
        rwa [show ors k f g k = f k by simp [ors]] at this
      have HE := Lib.hid (or_I hfk (HR.out.2.1.small k))
      have HLt := Lib.hid (or_lt hfk (HR.out.2.1.small k))
      rw [HE.out]
      clear k0 k1 hfk
      go_wp2_with fail
      go_roundw
      case rel =>
        have hst := (HR.out.1.drewN 1).store (k := k) HLt.out
        rw [ors_step] at hst
        exact ⟨k + 1, by omega, by go_num, hst, (HR.out.2.1.drewN 1).only ((Only.refl [b] _).setCell (Or.inl (by simp)) _) (by simp; exact hpb) (by simp; exact hbb), (HR.out.2.2.drewN 1).setCell (Or.inl (by simp)) _⟩
      case measure => simp [intOf]; omega
    · have hkk : n = k := by omega
      subst hkk
      have c1 := HR.out.2.1.set_cell
      go_wp2_with fail
      go_end0
      exact ⟨rfl, HR.out.1, HR.out.2.2⟩

set_option maxRecDepth 100000 in
set_option maxHeartbeats 1000000 in
theorem merge_any {w : World} {B B' q p b q' p' b' n c c' m k : Nat} {f g : Nat → Nat} (h1 : BF w B q p b n c m k f) (h2 : BF w B' q' p' b' n c' m k g) (hpb : p' ≠ b) (hbb : b' ≠ b) (h0 : 0 < n) (hn : n ≤ 1000) :
    Calls Try.prog 29 #[.pointer (some ⟨q, 0, none⟩), .pointer (some ⟨q', 0, none⟩)] w fun e w' => e = .returned Value.nilIface ∧ BF w' B q p b n c m k (ors n f g) ∧ Only [b] w w' := by
  have H1 := Lib.hid h1
  have H2 := Lib.hid h2
  have x0 := h1.c0
  have x1 := h1.c1
  have x2 := h1.c2
  have y0 := h2.c0
  have y1 := h2.c1
  have y2 := h2.c2
  have k0 : ((m : Int) != (m : Int)) = false := by simp
  have k1 : ((k : Int) != (k : Int)) = false := by simp
  clear h1 h2
  go_enter Try.func29, Try.ntmps29
  go_wp2_with fail
  go_quiet (fail)
  have G : Hid (BF (w.drewN nq) B q p b n c m k f ∧ BF (w.drewN nq) B' q' p' b' n c' m k g ∧ Only [b] w (w.drewN nq)) := ⟨H1.out.below (below_drewN (Below.refl _ _) nq), H2.out.below (below_drewN (Below.refl _ _) nq), (Only.refl _ _).drewN nq⟩
  clear x0 x1 x2 y0 y1 y2 H1 H2
  generalize w.drewN nq = w1 at G ⊢
  have x1 := G.out.1.c1
  have y1 := G.out.2.1.c1
  go_wp2_with fail
  go_quiet (fail)
  have G2 : Hid (BF (w1.drewN nq) B q p b n c m k f ∧ BF (w1.drewN nq) B' q' p' b' n c' m k g ∧ Only [b] w (w1.drewN nq)) := ⟨G.out.1.below (below_drewN (Below.refl _ _) nq), G.out.2.1.below (below_drewN (Below.refl _ _) nq), G.out.2.2.drewN nq⟩
  clear x1 y1 G
  generalize w1.drewN nq = w2 at G2 ⊢
  have x2 := G2.out.1.c2
  have y2 := G2.out.2.1.c2
  go_wp2_with fail
  refine wp_region_still_tail 8 (by kernel_rfl) (by kernel_rfl) ?_
  simp only [List.take_succ_cons, List.take_zero, List.drop_succ_cons, List.drop_zero]
  repeat still_step
  refine wpStill_nil ?_
  change wpList _ _ _ _ _ w2.drew
  have G3 : Hid (BF w2.drew B q p b n c m k f ∧ BF w2.drew B' q' p' b' n c' m k g ∧ Only [b] w w2.drew) := ⟨G2.out.1.below (below_drewN (Below.refl _ _) 1), G2.out.2.1.below (below_drewN (Below.refl _ _) 1), G2.out.2.2.drewN 1⟩
  clear x2 y2 G2
  generalize w2.drew = w3 at G3 ⊢
  go_wp2_with fail
  refine (union_any G3.out.1.rs G3.out.2.1.rs hpb hbb h0 hn).mono ?_
  rintro e w4 ⟨rfl, hr, ho⟩
  have G4 : Hid (BF w4 B q p b n c m k (ors n f g) ∧ Only [b] w w4) := ⟨G3.out.1.with hr ho, G3.out.2.2.trans ho⟩
  clear hr ho
  go_wp2_with fail
  go_ret
  exact ⟨rfl, G4.out⟩
end Go.Proofs.Ytbkodehcjhpcmaa
