/- Equal filters; one filter merged into another one. -/
import Derived.Test.YtbkodehcjhpcmaaL11
import Derived.BigQuiet
namespace Go.Proofs.Ytbkodehcjhpcmaa
open Go.RowKit

theorem drewN_two (w : World) (a b : Nat) : (w.drewN a).drewN b = w.drewN (a + b) := by
  simp [World.drewN, Nat.add_assoc]
set_option maxRecDepth 100000 in
set_option maxHeartbeats 2000000 in
theorem bequal_any {w : World} {p b p' b' n c c' : Nat} {f g : Nat → Nat} (h1 : RS w p b n c f) (h2 : RS w p' b' n c' g) (he : ∀ i, i < n → f i = g i) (h0 : 0 < n) (hn : n ≤ 1000) :
    Calls Try.prog 38 #[.pointer (some ⟨p, 0, none⟩), .pointer (some ⟨p', 0, none⟩)] w fun e w' => e = .returned (.bool true) ∧ ∃ d, w' = w.drewN d := by
  have H1 := Lib.hid h1
  have H2 := Lib.hid h2
  have HE := Lib.hid he
  have x0 := h1.len_cell
  have x1 := h1.set_cell
  have y0 := h2.len_cell
  have y1 := h2.set_cell
  have hlz : (((64 * n : Nat) : Int) == 0) = false := by simp; omega
  have hnl : (((64 * n : Nat) : Int) != ((64 * n : Nat) : Int)) = false := by simp
  obtain ⟨l, hl⟩ : ∃ l, l = 64 * n := ⟨_, rfl⟩
  rw [← hl] at x0 y0 hlz hnl
  clear h1 h2 he hl
  go_enter Try.func38, Try.ntmps38
  go_wp2_with fail
  go_quiet (fail)
  have G : Hid (RS (w.drewN nq) p b n c f ∧ RS (w.drewN nq) p' b' n c' g ∧ ∃ d, w.drewN nq = w.drewN d) := ⟨H1.out.drewN nq, H2.out.drewN nq, nq, rfl⟩
  have x0' : (w.drewN nq).cell? ⟨p, 0, none⟩ = some (.int .u64 (l : Nat)) := x0
  have x1' : (w.drewN nq).cell? ⟨p, 1, none⟩ = some (.slice (some ⟨b, 0, none⟩) n c) := x1
  have y1' : (w.drewN nq).cell? ⟨p', 1, none⟩ = some (.slice (some ⟨b', 0, none⟩) n c') := y1
  clear x0 x1 y0 y1 H1 H2
  generalize w.drewN nq = w1 at G x0' x1' y1' ⊢
  go_wp2_with fail
  refine (wordCount_any G.out.1 hn).mono ?_; rintro e w' ⟨rfl, rfl⟩
  obtain ⟨j, hj⟩ : ∃ j : Nat, (j : Int) = (n : Int) - 1 := ⟨n - 1, by omega⟩
  have j1 : (n : Int) - 1 = (j : Int) := hj.symm
  have j2 : j < n := by omega
  have z1 := G.out.1.word j2
  have z2 := G.out.2.1.word j2
  clear hj
  go_wp2_with fail
  clear z1 z2 j1 j2
  go_loopw [6] (fun iv wr => ∃ k : Nat, k ≤ n ∧ iv = .int .i64 k ∧ Hid (∃ d, wr = w1.drewN d)) (fun iv _ => n - (intOf iv).toNat)
  case atStart => exact ⟨0, by omega, rfl, 0, rfl⟩
  case round =>
    obtain ⟨k, hk, rfl, hR⟩ := hrel
    have HR : Hid (∃ d, wr = w1.drewN d) := hR
    clear hR
    have G2 : Hid (RS wr p b n c f ∧ RS wr p' b' n c' g) := by obtain ⟨d, rfl⟩ := HR.out; exact ⟨G.out.1.drewN d, G.out.2.1.drewN d⟩
    by_cases hkn : k < n
    · have u1 := G2.out.1.set_cell
      have u2 := G2.out.2.set_cell
      have u3 := G2.out.1.word hkn
      have u4 := G2.out.2.word hkn
      rw [← HE.out k hkn] at u4
      have k0 : (0 : Int) ≤ (k : Int) := by omega
      have k1 : (k : Int) < (n : Int) := by omega
      have k2 : (((f k : Nat) : Int) != ((f k : Nat) : Int)) = false := by simp
      go_wp2_with fail
      go_quiet (fail)
      have HE2 : Hid (∃ d, wr.drewN nq = w1.drewN d) := by obtain ⟨d, hd⟩ := HR.out; exact ⟨d + nq, by rw [hd]; exact drewN_two w1 d nq⟩
      generalize wr.drewN nq = wq at HE2 ⊢
      clear u1 u2 u3 u4 k0 k1 k2
      go_wp2_with fail
      go_roundw
      case rel => exact ⟨k + 1, by omega, by go_num, HE2⟩
      case measure => simp [intOf]; omega
    · go_wp2_with fail
      go_ret
      obtain ⟨d, hd⟩ := HR.out
      obtain ⟨_, _, d0, hd0⟩ := G.out
      exact ⟨rfl, d0 + d, by rw [hd, hd0]; exact drewN_two w d0 d⟩

set_option maxRecDepth 100000 in
set_option maxHeartbeats 2000000 in
theorem fequal_any {w : World} {B B' q p b q' p' b' n c c' m k : Nat} {f g : Nat → Nat} (h1 : BF w B q p b n c m k f) (h2 : BF w B' q' p' b' n c' m k g) (he : ∀ i, i < n → f i = g i) (h0 : 0 < n) (hn : n ≤ 1000) :
    Calls Try.prog 24 #[.pointer (some ⟨q, 0, none⟩), .pointer (some ⟨q', 0, none⟩)] w fun e w' => e = .returned (.bool true) ∧ ∃ d, w' = w.drewN d := by
  have HQ := Lib.hid (fun nn => bequal_any (h1.rs.drewN nn) (h2.rs.drewN nn) he h0 hn)
  have x0 := h1.c0
  have x1 := h1.c1
  have x2 := h1.c2
  have y0 := h2.c0
  have y1 := h2.c1
  have y2 := h2.c2
  have k0 : ((m : Int) == (m : Int)) = true := beq_self_eq_true _
  have k1 : ((k : Int) == (k : Int)) = true := beq_self_eq_true _
  clear h1 h2 he
  go_enter Try.func24, Try.ntmps24
  go_wp2_with fail
  go_quiet ((go_at_call 38; exact Calls.quiet_of (HQ.out _)))
  go_wp2_with fail
  go_ret
  exact ⟨rfl, nq, rfl⟩
end Go.Proofs.Ytbkodehcjhpcmaa
