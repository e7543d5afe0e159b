/- The hash of the rest, whatever its length. -/
import Derived.Test.YtbkodehcjhpcmaaL2a
import Derived.Test.YtbkodehcjhpcmaaL2b
import Derived.Test.YtbkodehcjhpcmaaL2c
import Derived.Test.YtbkodehcjhpcmaaL2d
namespace Go.Proofs.Ytbkodehcjhpcmaa
open Go.RowKit

/-- A slice of so many bytes. -/
def Byts (w : World) (so : Option Addr) (n : Nat) (s : Nat → UInt8) : Prop := 0 < n → ∃ b o, so = some ⟨b, o, none⟩ ∧ ∀ i, i < n → w.cell? ⟨b, o + i, none⟩ = some (.int .u8 ((s i).toNat : Nat))
theorem sum_ex (pad : Bool) (t : Nat) (ht : t < 16) (hp : pad = true → t < 15) (h1 h2 length : Int) (s : Nat → UInt8) : ∃ r1 r2 : Int, ∀ (w : World) (d : Nat) (so : Option Addr) (c : Nat), Dg w d h1 h2 → Byts w so t s →
    Calls Try.prog 60 #[.pointer (some ⟨d, 0, none⟩), .bool pad, .int .u64 length, .slice so t c] w fun e w' => e = .returned (.tuple #[.int .u64 r1, .int .u64 r2]) ∧ ∃ n, w' = w.drewN n := by
  cases pad
  · have h : t = 0 ∨ t = 1 ∨ t = 2 ∨ t = 3 ∨ t = 4 ∨ t = 5 ∨ t = 6 ∨ t = 7 ∨ t = 8 ∨ t = 9 ∨ t = 10 ∨ t = 11 ∨ t = 12 ∨ t = 13 ∨ t = 14 ∨ t = 15 := by omega
    rcases h with rfl | rfl | rfl | rfl | rfl | rfl | rfl | rfl | rfl | rfl | rfl | rfl | rfl | rfl | rfl | rfl
    · obtain ⟨r1, r2, h⟩ := sum_n0 h1 h2 length s
      exact ⟨r1, r2, fun w d so c hd _ => h w d so c hd⟩
    · obtain ⟨r1, r2, h⟩ := sum_n1 h1 h2 length s
      refine ⟨r1, r2, fun w d so c hd hs => ?_⟩
      obtain ⟨b, o, rfl, hb⟩ := hs (by decide)
      exact h w d b o c hd (hb 0 (by decide))
    · obtain ⟨r1, r2, h⟩ := sum_n2 h1 h2 length s
      refine ⟨r1, r2, fun w d so c hd hs => ?_⟩
      obtain ⟨b, o, rfl, hb⟩ := hs (by decide)
      exact h w d b o c hd ⟨hb 0 (by decide), hb 1 (by decide)⟩
    · obtain ⟨r1, r2, h⟩ := sum_n3 h1 h2 length s
      refine ⟨r1, r2, fun w d so c hd hs => ?_⟩
      obtain ⟨b, o, rfl, hb⟩ := hs (by decide)
      exact h w d b o c hd ⟨hb 0 (by decide), hb 1 (by decide), hb 2 (by decide)⟩
    · obtain ⟨r1, r2, h⟩ := sum_n4 h1 h2 length s
      refine ⟨r1, r2, fun w d so c hd hs => ?_⟩
      obtain ⟨b, o, rfl, hb⟩ := hs (by decide)
      exact h w d b o c hd ⟨hb 0 (by decide), hb 1 (by decide), hb 2 (by decide), hb 3 (by decide)⟩
    · obtain ⟨r1, r2, h⟩ := sum_n5 h1 h2 length s
      refine ⟨r1, r2, fun w d so c hd hs => ?_⟩
      obtain ⟨b, o, rfl, hb⟩ := hs (by decide)
      exact h w d b o c hd ⟨hb 0 (by decide), hb 1 (by decide), hb 2 (by decide), hb 3 (by decide), hb 4 (by decide)⟩
    · obtain ⟨r1, r2, h⟩ := sum_n6 h1 h2 length s
      refine ⟨r1, r2, fun w d so c hd hs => ?_⟩
      obtain ⟨b, o, rfl, hb⟩ := hs (by decide)
      exact h w d b o c hd ⟨hb 0 (by decide), hb 1 (by decide), hb 2 (by decide), hb 3 (by decide), hb 4 (by decide), hb 5 (by decide)⟩
    · obtain ⟨r1, r2, h⟩ := sum_n7 h1 h2 length s
      refine ⟨r1, r2, fun w d so c hd hs => ?_⟩
      obtain ⟨b, o, rfl, hb⟩ := hs (by decide)
      exact h w d b o c hd ⟨hb 0 (by decide), hb 1 (by decide), hb 2 (by decide), hb 3 (by decide), hb 4 (by decide), hb 5 (by decide), hb 6 (by decide)⟩
    · obtain ⟨r1, r2, h⟩ := sum_n8 h1 h2 length s
      refine ⟨r1, r2, fun w d so c hd hs => ?_⟩
      obtain ⟨b, o, rfl, hb⟩ := hs (by decide)
      exact h w d b o c hd ⟨hb 0 (by decide), hb 1 (by decide), hb 2 (by decide), hb 3 (by decide), hb 4 (by decide), hb 5 (by decide), hb 6 (by decide), hb 7 (by decide)⟩
    · obtain ⟨r1, r2, h⟩ := sum_n9 h1 h2 length s
      refine ⟨r1, r2, fun w d so c hd hs => ?_⟩
      obtain ⟨b, o, rfl, hb⟩ := hs (by decide)
      exact h w d b o c hd ⟨hb 0 (by decide), hb 1 (by decide), hb 2 (by decide), hb 3 (by decide), hb 4 (by decide), hb 5 (by decide), hb 6 (by decide), hb 7 (by decide), hb 8 (by decide)⟩
    · obtain ⟨r1, r2, h⟩ := sum_n10 h1 h2 length s
      refine ⟨r1, r2, fun w d so c hd hs => ?_⟩
      obtain ⟨b, o, rfl, hb⟩ := hs (by decide)
      exact h w d b o c hd ⟨hb 0 (by decide), hb 1 (by decide), hb 2 (by decide), hb 3 (by decide), hb 4 (by decide), hb 5 (by decide), hb 6 (by decide), hb 7 (by decide), hb 8 (by decide), hb 9 (by decide)⟩
    · obtain ⟨r1, r2, h⟩ := sum_n11 h1 h2 length s
      refine ⟨r1, r2, fun w d so c hd hs => ?_⟩
      obtain ⟨b, o, rfl, hb⟩ := hs (by decide)
      exact h w d b o c hd ⟨hb 0 (by decide), hb 1 (by decide), hb 2 (by decide), hb 3 (by decide), hb 4 (by decide), hb 5 (by decide), hb 6 (by decide), hb 7 (by decide), hb 8 (by decide), hb 9 (by decide), hb 10 (by decide)⟩
    · obtain ⟨r1, r2, h⟩ := sum_n12 h1 h2 length s
      refine ⟨r1, r2, fun w d so c hd hs => ?_⟩
      obtain ⟨b, o, rfl, hb⟩ := hs (by decide)
      exact h w d b o c hd ⟨hb 0 (by decide), hb 1 (by decide), hb 2 (by decide), hb 3 (by decide), hb 4 (by decide), hb 5 (by decide), hb 6 (by decide), hb 7 (by decide), hb 8 (by decide), hb 9 (by decide), hb 10 (by decide), hb 11 (by decide)⟩
    · obtain ⟨r1, r2, h⟩ := sum_n13 h1 h2 length s
      refine ⟨r1, r2, fun w d so c hd hs => ?_⟩
      obtain ⟨b, o, rfl, hb⟩ := hs (by decide)
      exact h w d b o c hd ⟨hb 0 (by decide), hb 1 (by decide), hb 2 (by decide), hb 3 (by decide), hb 4 (by decide), hb 5 (by decide), hb 6 (by decide), hb 7 (by decide), hb 8 (by decide), hb 9 (by decide), hb 10 (by decide), hb 11 (by decide), hb 12 (by decide)⟩
    · obtain ⟨r1, r2, h⟩ := sum_n14 h1 h2 length s
      refine ⟨r1, r2, fun w d so c hd hs => ?_⟩
      obtain ⟨b, o, rfl, hb⟩ := hs (by decide)
      exact h w d b o c hd ⟨hb 0 (by decide), hb 1 (by decide), hb 2 (by decide), hb 3 (by decide), hb 4 (by decide), hb 5 (by decide), hb 6 (by decide), hb 7 (by decide), hb 8 (by decide), hb 9 (by decide), hb 10 (by decide), hb 11 (by decide), hb 12 (by decide), hb 13 (by decide)⟩
    · obtain ⟨r1, r2, h⟩ := sum_n15 h1 h2 length s
      refine ⟨r1, r2, fun w d so c hd hs => ?_⟩
      obtain ⟨b, o, rfl, hb⟩ := hs (by decide)
      exact h w d b o c hd ⟨hb 0 (by decide), hb 1 (by decide), hb 2 (by decide), hb 3 (by decide), hb 4 (by decide), hb 5 (by decide), hb 6 (by decide), hb 7 (by decide), hb 8 (by decide), hb 9 (by decide), hb 10 (by decide), hb 11 (by decide), hb 12 (by decide), hb 13 (by decide), hb 14 (by decide)⟩
  · have h : t = 0 ∨ t = 1 ∨ t = 2 ∨ t = 3 ∨ t = 4 ∨ t = 5 ∨ t = 6 ∨ t = 7 ∨ t = 8 ∨ t = 9 ∨ t = 10 ∨ t = 11 ∨ t = 12 ∨ t = 13 ∨ t = 14 := by have := hp rfl; omega
    rcases h with rfl | rfl | rfl | rfl | rfl | rfl | rfl | rfl | rfl | rfl | rfl | rfl | rfl | rfl | rfl
    · obtain ⟨r1, r2, h⟩ := sum_p0 h1 h2 length s
      exact ⟨r1, r2, fun w d so c hd _ => h w d so c hd⟩
    · obtain ⟨r1, r2, h⟩ := sum_p1 h1 h2 length s
      refine ⟨r1, r2, fun w d so c hd hs => ?_⟩
      obtain ⟨b, o, rfl, hb⟩ := hs (by decide)
      exact h w d b o c hd (hb 0 (by decide))
    · obtain ⟨r1, r2, h⟩ := sum_p2 h1 h2 length s
      refine ⟨r1, r2, fun w d so c hd hs => ?_⟩
      obtain ⟨b, o, rfl, hb⟩ := hs (by decide)
      exact h w d b o c hd ⟨hb 0 (by decide), hb 1 (by decide)⟩
    · obtain ⟨r1, r2, h⟩ := sum_p3 h1 h2 length s
      refine ⟨r1, r2, fun w d so c hd hs => ?_⟩
      obtain ⟨b, o, rfl, hb⟩ := hs (by decide)
      exact h w d b o c hd ⟨hb 0 (by decide), hb 1 (by decide), hb 2 (by decide)⟩
    · obtain ⟨r1, r2, h⟩ := sum_p4 h1 h2 length s
      refine ⟨r1, r2, fun w d so c hd hs => ?_⟩
      obtain ⟨b, o, rfl, hb⟩ := hs (by decide)
      exact h w d b o c hd ⟨hb 0 (by decide), hb 1 (by decide), hb 2 (by decide), hb 3 (by decide)⟩
    · obtain ⟨r1, r2, h⟩ := sum_p5 h1 h2 length s
      refine ⟨r1, r2, fun w d so c hd hs => ?_⟩
      obtain ⟨b, o, rfl, hb⟩ := hs (by decide)
      exact h w d b o c hd ⟨hb 0 (by decide), hb 1 (by decide), hb 2 (by decide), hb 3 (by decide), hb 4 (by decide)⟩
    · obtain ⟨r1, r2, h⟩ := sum_p6 h1 h2 length s
      refine ⟨r1, r2, fun w d so c hd hs => ?_⟩
      obtain ⟨b, o, rfl, hb⟩ := hs (by decide)
      exact h w d b o c hd ⟨hb 0 (by decide), hb 1 (by decide), hb 2 (by decide), hb 3 (by decide), hb 4 (by decide), hb 5 (by decide)⟩
    · obtain ⟨r1, r2, h⟩ := sum_p7 h1 h2 length s
      refine ⟨r1, r2, fun w d so c hd hs => ?_⟩
      obtain ⟨b, o, rfl, hb⟩ := hs (by decide)
      exact h w d b o c hd ⟨hb 0 (by decide), hb 1 (by decide), hb 2 (by decide), hb 3 (by decide), hb 4 (by decide), hb 5 (by decide), hb 6 (by decide)⟩
    · obtain ⟨r1, r2, h⟩ := sum_p8 h1 h2 length s
      refine ⟨r1, r2, fun w d so c hd hs => ?_⟩
      obtain ⟨b, o, rfl, hb⟩ := hs (by decide)
      exact h w d b o c hd ⟨hb 0 (by decide), hb 1 (by decide), hb 2 (by decide), hb 3 (by decide), hb 4 (by decide), hb 5 (by decide), hb 6 (by decide), hb 7 (by decide)⟩
    · obtain ⟨r1, r2, h⟩ := sum_p9 h1 h2 length s
      refine ⟨r1, r2, fun w d so c hd hs => ?_⟩
      obtain ⟨b, o, rfl, hb⟩ := hs (by decide)
      exact h w d b o c hd ⟨hb 0 (by decide), hb 1 (by decide), hb 2 (by decide), hb 3 (by decide), hb 4 (by decide), hb 5 (by decide), hb 6 (by decide), hb 7 (by decide), hb 8 (by decide)⟩
    · obtain ⟨r1, r2, h⟩ := sum_p10 h1 h2 length s
      refine ⟨r1, r2, fun w d so c hd hs => ?_⟩
      obtain ⟨b, o, rfl, hb⟩ := hs (by decide)
      exact h w d b o c hd ⟨hb 0 (by decide), hb 1 (by decide), hb 2 (by decide), hb 3 (by decide), hb 4 (by decide), hb 5 (by decide), hb 6 (by decide), hb 7 (by decide), hb 8 (by decide), hb 9 (by decide)⟩
    · obtain ⟨r1, r2, h⟩ := sum_p11 h1 h2 length s
      refine ⟨r1, r2, fun w d so c hd hs => ?_⟩
      obtain ⟨b, o, rfl, hb⟩ := hs (by decide)
      exact h w d b o c hd ⟨hb 0 (by decide), hb 1 (by decide), hb 2 (by decide), hb 3 (by decide), hb 4 (by decide), hb 5 (by decide), hb 6 (by decide), hb 7 (by decide), hb 8 (by decide), hb 9 (by decide), hb 10 (by decide)⟩
    · obtain ⟨r1, r2, h⟩ := sum_p12 h1 h2 length s
      refine ⟨r1, r2, fun w d so c hd hs => ?_⟩
      obtain ⟨b, o, rfl, hb⟩ := hs (by decide)
      exact h w d b o c hd ⟨hb 0 (by decide), hb 1 (by decide), hb 2 (by decide), hb 3 (by decide), hb 4 (by decide), hb 5 (by decide), hb 6 (by decide), hb 7 (by decide), hb 8 (by decide), hb 9 (by decide), hb 10 (by decide), hb 11 (by decide)⟩
    · obtain ⟨r1, r2, h⟩ := sum_p13 h1 h2 length s
      refine ⟨r1, r2, fun w d so c hd hs => ?_⟩
      obtain ⟨b, o, rfl, hb⟩ := hs (by decide)
      exact h w d b o c hd ⟨hb 0 (by decide), hb 1 (by decide), hb 2 (by decide), hb 3 (by decide), hb 4 (by decide), hb 5 (by decide), hb 6 (by decide), hb 7 (by decide), hb 8 (by decide), hb 9 (by decide), hb 10 (by decide), hb 11 (by decide), hb 12 (by decide)⟩
    · obtain ⟨r1, r2, h⟩ := sum_p14 h1 h2 length s
      refine ⟨r1, r2, fun w d so c hd hs => ?_⟩
      obtain ⟨b, o, rfl, hb⟩ := hs (by decide)
      exact h w d b o c hd ⟨hb 0 (by decide), hb 1 (by decide), hb 2 (by decide), hb 3 (by decide), hb 4 (by decide), hb 5 (by decide), hb 6 (by decide), hb 7 (by decide), hb 8 (by decide), hb 9 (by decide), hb 10 (by decide), hb 11 (by decide), hb 12 (by decide), hb 13 (by decide)⟩
end Go.Proofs.Ytbkodehcjhpcmaa
