/- FITwice says something of every list of steps and changes nothing. -/
import Derived.Test.YtiiobifljflkiaaF11
namespace Go.Proofs.Ytiiobifljflkiaa
open Go.RowKit FI

/-- Steps that are looked at. -/
def Good (S : List Stp) : Prop := S.length ≤ 200 ∧ ∀ i, i < S.length → 1 ≤ (S.getD i stp0).op ∧ (S.getD i stp0).op ≤ 6 ∧ (S.getD i stp0).key < 18446744073709551616 ∧ (S.getD i stp0).val < 18446744073709551616

theorem drewN_two (w : World) (a b : Nat) : (w.drewN a).drewN b = w.drewN (a + b) := by
  simp [World.drewN, Nat.add_assoc]
set_option maxRecDepth 100000 in
set_option maxHeartbeats 2000000 in
theorem Twice_any {w : World} {sl : Value} {S : List Stp} (hS : Stps w sl S) (hG : Good S) :
    Calls Try.prog 14 #[sl] w fun e w' => ∃ b d, e = .returned (.bool b) ∧ w' = w.drewN d := by
  have HS := Lib.hid hS
  have HG := Lib.hid hG
  have hlen : S.length ≤ 200 := hG.1
  obtain ⟨so, cp, hsl⟩ : ∃ so cp, sl = .slice so S.length cp := by
    rcases hS with ⟨h1, h2⟩ | ⟨b, o, c, h1, _⟩
    · exact ⟨none, 0, by rw [h1, h2]; rfl⟩
    · exact ⟨_, _, h1⟩
  subst hsl
  clear hS hG
  go_enter Try.func14, Try.ntmps14
  go_wp2_with fail
  go_loopw [3] (fun nv wr => ∃ k : Nat, k ≤ S.length ∧ nv = .int .i64 k ∧ Hid (∃ d, wr = w.drewN d)) (fun nv _ => S.length - (intOf nv).toNat)
  case atStart => exact ⟨0, by omega, rfl, ⟨0, rfl⟩⟩
  case round =>
    obtain ⟨k, hk, rfl, hR⟩ := hrel
    have HR : Hid (∃ d, wr = w.drewN d) := hR
    clear hR
    by_cases hkl : k < S.length
    · go_wp2_with fail
      go_loopw [4, 5] (fun tv iv wr => ∃ (b : Bool) (i : Nat), i ≤ k ∧ tv = .bool b ∧ iv = .int .i64 i ∧ Hid (∃ d, wr = w.drewN d)) (fun _ iv _ => k - (intOf iv).toNat)
      case atStart => exact ⟨false, 0, by omega, rfl, rfl, HR⟩
      case round =>
        clear HR
        obtain ⟨t, i, hi, rfl, rfl, hR⟩ := hrel
        have HR : Hid (∃ d, wr = w.drewN d) := hR
        clear hR
        rcases HS.out with ⟨h1, h2⟩ | ⟨b, o, c, h1, h2, h3⟩
        · rw [h2] at hkl; exact absurd hkl (by simp)
        · simp only [Value.slice.injEq] at h1
          obtain ⟨rfl, _, rfl⟩ := h1
          obtain ⟨e0, e1, e2⟩ := h3 k hkl
          have hc : ∀ a, wr.cell? a = w.cell? a := by obtain ⟨d, rfl⟩ := HR.out; exact fun _ => rfl
          rw [← hc] at e0 e1 e2
          obtain ⟨x, hx⟩ : ∃ x, x = S.getD k stp0 := ⟨_, rfl⟩
          rw [← hx] at e0 e1 e2
          by_cases hik : i < k
          · obtain ⟨c0, c1, c2⟩ := h3 i (by omega)
            rw [← hc] at c0 c1 c2
            obtain ⟨y, hy⟩ : ∃ x, x = S.getD i stp0 := ⟨_, rfl⟩
            rw [← hy] at c0 c1 c2
            clear hc h3 hx hy
            have q0 : ((y.key : Int) == (x.key : Int)) = decide (y.key = x.key) := by
              by_cases h : y.key = x.key <;> simp [h] <;> omega
            have q1 : ((y.op : Int) == 1) = decide (y.op = 1) := by
              by_cases h : y.op = 1 <;> simp [h] <;> omega
            have q4 : ((y.op : Int) == 4) = decide (y.op = 4) := by
              by_cases h : y.op = 4 <;> simp [h] <;> omega
            by_cases hkk : y.key = x.key
            · rw [decide_eq_true hkk] at q0
              clear hkk
              by_cases ho1 : y.op = 1
              · rw [decide_eq_true ho1] at q1
                clear ho1 q4
                go_wp2_with fail
                go_quiet (fail)
                have HE : Hid (∃ d, wr.drewN nq = w.drewN d) := by obtain ⟨d, hd⟩ := HR.out; exact ⟨d + nq, by rw [hd]; exact drewN_two w d nq⟩
                have c0' : (wr.drewN nq).cell? ⟨b, o + i * 3, none⟩ = some (.int .i64 (y.op : Nat)) := c0
                generalize wr.drewN nq = wq at HE c0' ⊢
                clear c0 c1 c2 e0 e1 e2
                go_wp2_with fail
                go_roundw
                case rel => exact ⟨_, i + 1, by omega, rfl, by go_num, HE⟩
                case measure => simp [intOf]; omega
              · rw [decide_eq_false ho1] at q1
                clear ho1
                by_cases ho4 : y.op = 4
                · rw [decide_eq_true ho4] at q4
                  clear ho4
                  go_wp2_with fail
                  go_quiet (fail)
                  have HE : Hid (∃ d, wr.drewN nq = w.drewN d) := by obtain ⟨d, hd⟩ := HR.out; exact ⟨d + nq, by rw [hd]; exact drewN_two w d nq⟩
                  have c0' : (wr.drewN nq).cell? ⟨b, o + i * 3, none⟩ = some (.int .i64 (y.op : Nat)) := c0
                  generalize wr.drewN nq = wq at HE c0' ⊢
                  clear c0 c1 c2 e0 e1 e2
                  go_wp2_with fail
                  go_roundw
                  case rel => exact ⟨_, i + 1, by omega, rfl, by go_num, HE⟩
                  case measure => simp [intOf]; omega
                · rw [decide_eq_false ho4] at q4
                  clear ho4
                  go_wp2_with fail
                  go_quiet (fail)
                  have HE : Hid (∃ d, wr.drewN nq = w.drewN d) := by obtain ⟨d, hd⟩ := HR.out; exact ⟨d + nq, by rw [hd]; exact drewN_two w d nq⟩
                  have c0' : (wr.drewN nq).cell? ⟨b, o + i * 3, none⟩ = some (.int .i64 (y.op : Nat)) := c0
                  generalize wr.drewN nq = wq at HE c0' ⊢
                  clear c0 c1 c2 e0 e1 e2
                  go_wp2_with fail
                  go_roundw
                  case rel => exact ⟨_, i + 1, by omega, rfl, by go_num, HE⟩
                  case measure => simp [intOf]; omega
            · rw [decide_eq_false hkk] at q0
              clear hkk q1 q4
              go_wp2_with fail
              go_quiet (fail)
              have HE : Hid (∃ d, wr.drewN nq = w.drewN d) := by obtain ⟨d, hd⟩ := HR.out; exact ⟨d + nq, by rw [hd]; exact drewN_two w d nq⟩
              have c0' : (wr.drewN nq).cell? ⟨b, o + i * 3, none⟩ = some (.int .i64 (y.op : Nat)) := c0
              generalize wr.drewN nq = wq at HE c0' ⊢
              clear c0 c1 c2 e0 e1 e2
              go_wp2_with fail
              go_roundw
              case rel => exact ⟨_, i + 1, by omega, rfl, by go_num, HE⟩
              case measure => simp [intOf]; omega
          · have q1 : ((x.op : Int) == 1) = decide (x.op = 1) := by
              by_cases h : x.op = 1 <;> simp [h] <;> omega
            clear h3 hc hx
            cases t
            · go_wp2_with fail
              go_roundw
              case rel => exact ⟨k + 1, by omega, by go_num, HR⟩
              case measure => simp [intOf]; omega
            · by_cases ho1 : x.op = 1
              · rw [decide_eq_true ho1] at q1
                clear ho1
                go_wp2_with fail
                go_ret
                obtain ⟨d, hd⟩ := HR.out
                exact ⟨_, d, rfl, hd⟩
              · rw [decide_eq_false ho1] at q1
                clear ho1
                go_wp2_with fail
                go_roundw
                case rel => exact ⟨k + 1, by omega, by go_num, HR⟩
                case measure => simp [intOf]; omega
    · go_wp2_with fail
      go_ret
      obtain ⟨d, hd⟩ := HR.out
      exact ⟨_, d, rfl, hd⟩
end Go.Proofs.Ytiiobifljflkiaa
