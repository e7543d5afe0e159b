/- The hash map's smallest functions: the hash, rounding up to a power of two. -/
import Derived.Test.YtiiobifljflkiaaHeapKit
import Derived.Test.YtiiobifljflkiaaWordBits
import Derived.Test.YtiiobifljflkiaaFIPure
import Derived.Test.YtiiobifljflkiaaRows
import Derived.WalkSpells
import Derived.WalkLawsBesides
namespace Go.Proofs.Ytiiobifljflkiaa
open Go.RowKit FI

def hx (k : Nat) : Nat := k ^^^ (k / 8589934592)
def hsh (k : Nat) : Nat := hx (hx (hx k * 18397679294719823053 % 18446744073709551616) * 14181476777654086739 % 18446744073709551616)
theorem hx_lt {k : Nat} (h : k < 18446744073709551616) : hx k < 18446744073709551616 := Nat.xor_lt_two_pow (n := 64) h (by omega)
theorem hxI {k : Nat} (h : k < 18446744073709551616) : bits BinOp.xor IntKind.u64 (k : Int) ((k : Int) / 8589934592) = (hx k : Int) := by
  rw [show (k : Int) / 8589934592 = ((k / 8589934592 : Nat) : Int) from (Int.natCast_ediv k 8589934592).symm, u64_xor_nat _ _ h (by omega)]
  rfl
theorem mulI (x c : Nat) : IntKind.u64.wrap ((x : Int) * (c : Int)) = ((x * c % 18446744073709551616 : Nat) : Int) := by
  rw [← Int.natCast_mul, IntKind.wrap_u64, Int.natCast_emod]; rfl
theorem hsh_lt {k : Nat} (h : k < 18446744073709551616) : hsh k < 18446744073709551616 := hx_lt (Nat.mod_lt _ (by decide))

set_option maxHeartbeats 400000 in
theorem hash_any (k : Nat) (w : World) (h : k < 18446744073709551616) :
    Calls Try.prog 22 #[.int .u64 k] w fun e w' => e = .returned (.int .u64 (hsh k : Nat)) ∧ w = w' := by
  have h1 := hx_lt h
  have h2 : hx k * 18397679294719823053 % 18446744073709551616 < 18446744073709551616 := Nat.mod_lt _ (by decide)
  have h3 := hx_lt h2
  have h4 : hx (hx k * 18397679294719823053 % 18446744073709551616) * 14181476777654086739 % 18446744073709551616 < 18446744073709551616 := Nat.mod_lt _ (by decide)
  have e1 := Lib.hid (hxI h)
  have e2 : Hid (IntKind.u64.wrap ((hx k : Int) * 18397679294719823053) = ((hx k * 18397679294719823053 % 18446744073709551616 : Nat) : Int)) := Lib.hid (mulI (hx k) 18397679294719823053)
  have e3 := Lib.hid (hxI h2)
  have e4 : Hid (IntKind.u64.wrap ((hx (hx k * 18397679294719823053 % 18446744073709551616) : Int) * 14181476777654086739) = ((hx (hx k * 18397679294719823053 % 18446744073709551616) * 14181476777654086739 % 18446744073709551616 : Nat) : Int)) := Lib.hid (mulI (hx (hx k * 18397679294719823053 % 18446744073709551616)) 14181476777654086739)
  have e5 := Lib.hid (hxI h4)
  clear h1 h2 h3 h4
  go_enter Try.func22, Try.ntmps22
  go_wp2
  go_ret
  exact ⟨retI (by rw [e1.out, e2.out, e3.out, e4.out, e5.out]; rfl), rfl⟩

/-- Rounding up to a power of two. -/
def smr (x c : Nat) : Nat := x ||| x / c
def rup0 (v : Nat) : Nat := smr (smr (smr (smr (smr (smr (v - 1) 2) 4) 16) 256) 65536) 4294967296
def rup (v : Nat) : Nat := rup0 v + 1
theorem smr_lt {x c : Nat} (h : x < 18446744073709551616) : smr x c < 18446744073709551616 := Nat.or_lt_two_pow (n := 64) h (Nat.lt_of_le_of_lt (Nat.div_le_self _ _) h)
theorem smrI {x : Nat} (c : Nat) (h : x < 18446744073709551616) : bits BinOp.or IntKind.u64 (x : Int) ((x : Int) / (c : Int)) = (smr x c : Int) := by
  rw [show (x : Int) / (c : Int) = ((x / c : Nat) : Int) from (Int.natCast_ediv x c).symm, u64_or_nat _ _ h (Nat.lt_of_le_of_lt (Nat.div_le_self _ _) h)]
  rfl
set_option maxHeartbeats 400000 in
theorem roundUp_any (v : Nat) (w : World) (h0 : 1 ≤ v) (h : v ≤ 1000000) (hr : rup v ≤ 1000000) :
    Calls Try.prog 15 #[.int .u64 v] w fun e w' => e = .returned (.int .u64 (rup v : Nat)) ∧ w = w' := by
  obtain ⟨u, hu⟩ : ∃ u, u = v - 1 := ⟨_, rfl⟩
  have hv1 : (v : Int) - 1 = (u : Int) := by omega
  have g0 : u < 18446744073709551616 := by omega
  have g1 := smr_lt (c := 2) g0
  have g2 := smr_lt (c := 4) g1
  have g3 := smr_lt (c := 16) g2
  have g4 := smr_lt (c := 256) g3
  have g5 := smr_lt (c := 65536) g4
  have e1 : Hid (bits BinOp.or IntKind.u64 (u : Int) ((u : Int) / 2) = (smr u 2 : Int)) := Lib.hid (smrI 2 g0)
  have e2 : Hid (bits BinOp.or IntKind.u64 (smr u 2 : Int) ((smr u 2 : Int) / 4) = (smr (smr u 2) 4 : Int)) := Lib.hid (smrI 4 g1)
  have e3 : Hid (bits BinOp.or IntKind.u64 (smr (smr u 2) 4 : Int) ((smr (smr u 2) 4 : Int) / 16) = (smr (smr (smr u 2) 4) 16 : Int)) := Lib.hid (smrI 16 g2)
  have e4 : Hid (bits BinOp.or IntKind.u64 (smr (smr (smr u 2) 4) 16 : Int) ((smr (smr (smr u 2) 4) 16 : Int) / 256) = (smr (smr (smr (smr u 2) 4) 16) 256 : Int)) := Lib.hid (smrI 256 g3)
  have e5 : Hid (bits BinOp.or IntKind.u64 (smr (smr (smr (smr u 2) 4) 16) 256 : Int) ((smr (smr (smr (smr u 2) 4) 16) 256 : Int) / 65536) = (smr (smr (smr (smr (smr u 2) 4) 16) 256) 65536 : Int)) := Lib.hid (smrI 65536 g4)
  have e6 : Hid (bits BinOp.or IntKind.u64 (smr (smr (smr (smr (smr u 2) 4) 16) 256) 65536 : Int) ((smr (smr (smr (smr (smr u 2) 4) 16) 256) 65536 : Int) / 4294967296) = (rup0 v : Int)) := Lib.hid (by have := smrI 4294967296 g5; rw [hu] at this ⊢; exact this)
  have HR : Hid (rup0 v + 1 ≤ 1000000) := Lib.hid hr
  have e7 : Hid (IntKind.u64.wrap ((rup0 v : Int) + 1) = (rup v : Int)) := Lib.hid (by have := HR.out; unfold rup; rw [IntKind.wrap_u64]; omega)
  clear g0 g1 g2 g3 g4 g5 hr hu
  go_enter Try.func15, Try.ntmps15
  go_wp2
  rw [e1.out, e2.out, e3.out, e4.out, e5.out, e6.out, e7.out]
  go_ret
  exact ⟨rfl, rfl⟩
theorem rup_small : ∀ v, v < 601 → v = 0 ∨ ∃ a, a < 11 ∧ rup v = 2 ^ a := by decide +kernel
theorem rup_next : ∀ a, a < 20 → rup (2 ^ a + 1) = 2 ^ (a + 1) := by decide +kernel
end Go.Proofs.Ytiiobifljflkiaa
