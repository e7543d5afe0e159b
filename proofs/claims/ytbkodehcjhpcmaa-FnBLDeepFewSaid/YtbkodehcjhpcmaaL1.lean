/- The hash's smallest functions. -/
import Derived.Test.YtbkodehcjhpcmaaHeapKit
import Derived.Test.YtbkodehcjhpcmaaRows
import Derived.Test.YtbkodehcjhpcmaaShelf
import Derived.WalkSpells
import Derived.WalkLawsBesides
namespace Go.Proofs.Ytbkodehcjhpcmaa
open Go.RowKit

theorem rot_ex (k : Int) (hk : k = 31 ∨ k = 27 ∨ k = 33) (x : Int) : ∃ r : Int, ∀ w, Calls Try.prog 65 #[.int .u64 x, .int .i64 k] w fun e w' => e = .returned (.int .u64 r) ∧ w = w' := by
  have h31 : bits BinOp.and IntKind.u64 31 63 = 31 := by kernel_rfl
  have h27 : bits BinOp.and IntKind.u64 27 63 = 27 := by kernel_rfl
  have h33 : bits BinOp.and IntKind.u64 33 63 = 33 := by kernel_rfl
  rcases hk with rfl | rfl | rfl
  all_goals
    apply Exists.intro
    intro w
    go_enter Try.func65, Try.ntmps65
    go_wp2
    go_ret
    exact ⟨rfl, rfl⟩
theorem fmix_ex (x : Int) : ∃ r : Int, ∀ w, Calls Try.prog 66 #[.int .u64 x] w fun e w' => e = .returned (.int .u64 r) ∧ w = w' := by
  apply Exists.intro
  intro w
  go_enter Try.func66, Try.ntmps66
  go_wp2
  go_ret
  exact ⟨rfl, rfl⟩
theorem rot_spec : ∃ r : Int → Int → Int, ∀ (k x : Int), (k = 31 ∨ k = 27 ∨ k = 33) → ∀ w, Calls Try.prog 65 #[.int .u64 x, .int .i64 k] w fun e w' => e = .returned (.int .u64 (r k x)) ∧ w = w' := by
  have h : ∀ k x : Int, ∃ r : Int, (k = 31 ∨ k = 27 ∨ k = 33) → ∀ w, Calls Try.prog 65 #[.int .u64 x, .int .i64 k] w fun e w' => e = .returned (.int .u64 r) ∧ w = w' := by
    intro k x
    by_cases hk : k = 31 ∨ k = 27 ∨ k = 33
    · obtain ⟨r, hr⟩ := rot_ex k hk x
      exact ⟨r, fun _ => hr⟩
    · exact ⟨0, fun h => absurd h hk⟩
  exact ⟨fun k x => Classical.choose (h k x), fun k x => Classical.choose_spec (h k x)⟩
noncomputable def rot : Int → Int → Int := Classical.choose rot_spec
theorem rot_any (k x : Int) (hk : k = 31 ∨ k = 27 ∨ k = 33) (w : World) : Calls Try.prog 65 #[.int .u64 x, .int .i64 k] w fun e w' => e = .returned (.int .u64 (rot k x)) ∧ w = w' := Classical.choose_spec rot_spec k x hk w
noncomputable def fmix (x : Int) : Int := Classical.choose (fmix_ex x)
theorem fmix_any (x : Int) (w : World) : Calls Try.prog 66 #[.int .u64 x] w fun e w' => e = .returned (.int .u64 (fmix x)) ∧ w = w' := Classical.choose_spec (fmix_ex x) w

/-- A digest: its two words. -/
def Dg (w : World) (d : Nat) (h1 h2 : Int) : Prop := ∃ T, Blk w d #[.int .u64 h1, .int .u64 h2] T

set_option maxRecDepth 100000 in
set_option maxHeartbeats 1000000 in
theorem mixw_ex (h1 h2 k1 k2 : Int) : ∃ r1 r2 : Int, ∀ (w : World) (d : Nat), Dg w d h1 h2 → Calls Try.prog 63 #[.pointer (some ⟨d, 0, none⟩), .int .u64 k1, .int .u64 k2] w fun e w' =>
    e = .returned (.tuple #[]) ∧ Dg w' d r1 r2 ∧ Only [d] w w' := by
  apply Exists.intro
  apply Exists.intro
  rintro w d ⟨T, hd⟩
  have c0 := hd.cell (i := 0) rfl
  have c1 := hd.cell (i := 1) rfl
  have f0 := hd.free 0
  have f1 := hd.free 1
  have H := Lib.hid hd
  clear hd
  go_enter Try.func63, Try.ntmps63
  go_wp2_with fail
  go_quiet (fail)
  have H2 : Hid (Blk (w.drewN nq) d #[.int .u64 h1, .int .u64 h2] T ∧ Only [d] w (w.drewN nq)) := ⟨H.out.drewN nq, (Only.refl _ _).drewN nq⟩
  generalize w.drewN nq = wq at H2 ⊢
  clear c0 c1 f0 f1
  have c0 := H2.out.1.cell (i := 0) rfl
  have c1 := H2.out.1.cell (i := 1) rfl
  have f0 := H2.out.1.free 0
  have f1 := H2.out.1.free 1
  go_wp2_with fail
  refine (rot_any _ _ (Or.inl rfl) _).mono ?_; rintro e w1 ⟨rfl, rfl⟩
  go_wp2_with fail
  refine (rot_any _ _ (Or.inr (Or.inl rfl)) _).mono ?_; rintro e w1 ⟨rfl, rfl⟩
  go_wp2_with fail
  refine (rot_any _ _ (Or.inr (Or.inr rfl)) _).mono ?_; rintro e w1 ⟨rfl, rfl⟩
  go_wp2_with fail
  refine (rot_any _ _ (Or.inl rfl) _).mono ?_; rintro e w1 ⟨rfl, rfl⟩
  go_wp2_with fail
  go_end0
  exact ⟨rfl, ⟨T, (H2.out.1.set 0 _).set 1 _⟩, (H2.out.2.setCell (Or.inl (by simp)) _).setCell (Or.inl (by simp)) _⟩
theorem wp_hideQ {P : Program} {c : Code} {B : Exit → Act → World → Prop} {a : Act} {w : World} (h : ∀ Q0 : Exit → Act → World → Prop, (∀ e a w, B e a w → Q0 e a w) → c.wp P Q0 a w) : c.wp P B a w := h B fun _ _ _ h => h
theorem inBlock_pass {n m : Nat} {Q : Exit → Act → World → Prop} {a : Act} {w : World} (h : ¬ m = n) (hq : Q (.exit m) a w) : Exit.inBlock n Q (.exit m) a w := by
  show (if m = n then Q .normal a w else Q (.exit m) a w)
  rw [if_neg h]; exact hq
theorem inBlock_hit {n : Nat} {Q : Exit → Act → World → Prop} {a : Act} {w : World} (hq : Q .normal a w) : Exit.inBlock n Q (.exit n) a w := by
  show (if n = n then Q .normal a w else Q (.exit n) a w)
  rw [if_pos rfl]; exact hq
theorem then_pass {m : Nat} {K : Act → World → Prop} {Q : Exit → Act → World → Prop} {a : Act} {w : World} (hq : Q (.exit m) a w) : Exit.then K Q (.exit m) a w := hq
end Go.Proofs.Ytbkodehcjhpcmaa
