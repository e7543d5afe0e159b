/- Walks of the Hilbert curve's functions. -/
import Derived.Test.YtanloagjjbkfjaaHLPure
import Derived.Test.YtanloagjjbkfjaaRows
import Derived.WalkKit
import Derived.Lib.Hide
import Derived.WalkSpells
import Derived.WalkLawsBesides
namespace Go.Proofs.Ytanloagjjbkfjaa
open Go.RowKit
def HL.b2i (b : Bool) : Int := if b then 1 else 0
set_option maxHeartbeats 400000 in
theorem b2i_any (b : Bool) (w : World) :
    Calls Try.prog 24 #[.bool b] w fun e w' => e = .returned (.int .i32 (HL.b2i b)) ∧ w = w' := by
  cases b <;>
  · go_enter Try.func24, Try.ntmps24
    go_wp2
    go_ret
    exact ⟨rfl, rfl⟩
/-- Two cells in memory hold two numbers, and can be written. -/
structure HL.Two (B : Nat) (w0 w : World) (x y : Int) : Prop where
  hx : w.cell? ⟨B, 0, none⟩ = some (.int .i32 x)
  hy : w.cell? ⟨B + 1, 0, none⟩ = some (.int .i32 y)
  fx : w.frozen? ⟨B, 0, none⟩ = false
  fy : w.frozen? ⟨B + 1, 0, none⟩ = false
  below : Below B w0 w
theorem HL.Two.setX {B : Nat} {w0 w : World} {x y : Int} (h : HL.Two B w0 w x y) (z : Int) : HL.Two B w0 (w.setCell ⟨B, 0, none⟩ (.int .i32 z)) z y :=
  ⟨World.cell?_setCell_same _ _ _ h.hx, (World.cell?_setCell_other _ _ _ _ (by simp)).trans h.hy, by rw [World.frozen?_setCell]; exact h.fx, by rw [World.frozen?_setCell]; exact h.fy,
    h.below.setCell (Nat.le_refl _) _⟩
theorem HL.Two.setY {B : Nat} {w0 w : World} {x y : Int} (h : HL.Two B w0 w x y) (z : Int) : HL.Two B w0 (w.setCell ⟨B + 1, 0, none⟩ (.int .i32 z)) x z :=
  ⟨(World.cell?_setCell_other _ _ _ _ (by simp)).trans h.hx, World.cell?_setCell_same _ _ _ h.hy, by rw [World.frozen?_setCell]; exact h.fx, by rw [World.frozen?_setCell]; exact h.fy,
    h.below.setCell (Nat.le_succ _) _⟩
set_option maxHeartbeats 400000 in
theorem rot_any (s x y : Int) (rx ry : Bool) (B : Nat) (w0 w : World) (hs : 0 < s) (hs2 : s ≤ 1073741824) (h : HL.Two B w0 w x y) :
    Calls Try.prog 25 #[.int .i32 s, .int .i32 (HL.b2i rx), .int .i32 (HL.b2i ry), .pointer (some ⟨B, 0, none⟩), .pointer (some ⟨B + 1, 0, none⟩)] w fun e w' => e = .returned (.tuple #[]) ∧
     HL.Two B w0 w' (HL.nx rx ry s x y).1 (HL.nx rx ry s x y).2 := by
  have HH := Lib.hid h
  obtain ⟨hx, hy, fx, fy, hb⟩ := h
  clear hb
  cases ry
  · cases rx
    · go_enter Try.func25, Try.ntmps25
      go_wp2
      go_end0
      exact ⟨rfl, (HH.out.setX y).setY x⟩
    · go_enter Try.func25, Try.ntmps25
      go_wp2
      go_end0
      exact ⟨rfl, (((HH.out.setX _).setY _).setX _).setY _⟩
  · cases rx <;>
    · go_enter Try.func25, Try.ntmps25
      go_wp2
      go_end0
      exact ⟨rfl, HH.out⟩

theorem HL.xor_quad (a b : Bool) : wrap64 (bits BinOp.xor IntKind.i32 (wrap32 (3 * HL.b2i a)) (HL.b2i b)) = HL.quad a b := by
  cases a <;> cases b <;> decide +kernel
theorem HL.sAt_pos (n : Nat) : 0 < HL.sAt (n + 1) := by
  have := HL.pow2_pos n
  show 0 < ((2 ^ n : Nat) : Int)
  omega
theorem HL.sAt_le (n : Nat) (h : n ≤ 31) : HL.sAt n ≤ 1073741824 := by
  cases n with
  | zero => decide
  | succ n =>
    have : 2 ^ n ≤ 2 ^ 30 := Nat.pow_le_pow_right (by decide) (by omega)
    show ((2 ^ n : Nat) : Int) ≤ _
    omega
theorem HL.sAt_half (n : Nat) : HL.sAt (n + 1) / 2 = HL.sAt n := by
  cases n with
  | zero => decide
  | succ n =>
    show ((2 ^ (n + 1) : Nat) : Int) / 2 = ((2 ^ n : Nat) : Int)
    rw [Nat.pow_succ]; omega
theorem HL.toNat_lt (n : Nat) : (HL.sAt n).toNat < (HL.sAt (n + 1)).toNat := by
  have := HL.sAt_half n
  have := HL.sAt_pos n
  omega

set_option maxHeartbeats 1000000 in
theorem enc_any (x y : Int) (w : World) :
    Calls Try.prog 13 #[.int .i32 x, .int .i32 y] w fun e w' => e = .returned (.int .i64 (HL.enc x y)) ∧ Below w.heap.size w w' := by
  go_enter Try.func13, Try.ntmps13
  go_wp2
  go_loopw [5, 6, 7, 8] (fun rx ry d s wr => ∃ (m : Nat) (a b dd rx0 ry0 : Int), m ≤ 31 ∧ d = .int .i64 dd ∧ s = .int .i32 (HL.sAt m) ∧ rx = .int .i32 rx0 ∧ ry = .int .i32 ry0
       ∧ HL.Two w.heap.size w wr a b ∧ HL.encL m a b dd = HL.enc x y)
    (fun _ _ _ s _ => (intOf s).toNat)
  case atStart =>
    exact ⟨31, x, y, 0, 0, 0, by omega, rfl, rfl, rfl, rfl, ⟨by simp, by simp, by simp, by simp, ((Below.refl _ _).alloc (Nat.le_refl _) _).alloc (by simp) _⟩, rfl⟩
  case round =>
    obtain ⟨m, a, b, dd, rx0, ry0, hm, rfl, rfl, rfl, rfl, hT, hE⟩ := hrel
    have HT := Lib.hid hT
    have HE := Lib.hid hE
    obtain ⟨ha, hb, fa, fb, hbel⟩ := hT
    clear hbel hE
    cases m with
    | zero =>
      have hd : HL.sAt 0 = 0 := rfl
      rw [hd]
      go_wp2_with fail
      go_ret
      exact ⟨congrArg (fun n => Ending.returned (.int .i64 n)) HE.out, HT.out.below⟩
    | succ m =>
      have hp := HL.sAt_pos m
      have hl := HL.sAt_le (m + 1) hm
      have HH := Lib.hid (HL.sAt_half m)
      have HN := Lib.hid (HL.toNat_lt m)
      generalize hs : HL.sAt (m + 1) = s at *
      have HS := Lib.hid hs
      clear hs
      go_wp2_with fail
      refine (b2i_any _ _).mono ?_; rintro e w' ⟨rfl, rfl⟩
      go_wp2_with fail
      refine (b2i_any _ _).mono ?_; rintro e w' ⟨rfl, rfl⟩
      go_wp2_with fail
      refine (rot_any s a b _ _ w.heap.size w _ hp hl HT.out).mono ?_
      rintro e w1 ⟨rfl, hT1⟩
      have HT1 := Lib.hid hT1
      clear hT1
      go_wp2_with fail
      go_roundw
      case rel =>
        refine ⟨m, _, _, _, _, _, by omega, rfl, by rw [HH.out], rfl, rfl, HT1.out, ?_⟩
        rw [HL.xor_quad, ← HE.out, HL.encL, HS.out]
        rfl
      case measure =>
        show (s / 2).toNat < s.toNat
        omega
end Go.Proofs.Ytanloagjjbkfjaa
