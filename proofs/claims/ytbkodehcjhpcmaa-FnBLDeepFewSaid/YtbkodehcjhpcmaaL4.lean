/- The hash's blocks. -/
import Derived.Test.YtbkodehcjhpcmaaL1
import Derived.Test.YtbkodehcjhpcmaaL3
import Derived.BigQuiet
import Derived.Deep.RegionHeld3
namespace Go.Proofs.Ytbkodehcjhpcmaa
open Go.RowKit

theorem cell_lt {w : World} {a : Addr} {v : Value} (h : w.cell? a = some v) : a.block < w.heap.size := World.block_lt_of_cell? w _ h
theorem Dg.same {w w' : World} {d : Nat} {h1 h2 : Int} (h : Dg w d h1 h2) (hb : Below w.heap.size w w') : Dg w' d h1 h2 := by
  obtain ⟨T, h⟩ := h
  exact ⟨T, (hb.block d h.lt).trans h⟩
theorem Dg.drew {w : World} {d : Nat} {h1 h2 : Int} (h : Dg w d h1 h2) : Dg w.drew d h1 h2 := h
def le64 (s : Nat → UInt8) (o : Nat) : Int := (Lib.leNat [s o, s (o + 1), s (o + 2), s (o + 3), s (o + 4), s (o + 5), s (o + 6), s (o + 7)] : Nat)
theorem u64_any (g o n c k : Nat) (s : Nat → UInt8) (w : World) (hn : 8 ≤ n) (hb : ∀ i, i < 8 → w.cell? ⟨g, o + i, none⟩ = some (.int .u8 ((s (k + i)).toNat : Nat))) :
    Calls Try.prog 61 #[.agg #[], .slice (some ⟨g, o, none⟩) n c] w fun e w' => e = .returned (.int .u64 (le64 s k)) ∧ Below w.heap.size w w' :=
  Try.binary_LE_Uint64 g o n c _ _ _ _ _ _ _ _ w hn (hb 0 (by decide)) (hb 1 (by decide)) (hb 2 (by decide)) (hb 3 (by decide)) (hb 4 (by decide)) (hb 5 (by decide)) (hb 6 (by decide)) (hb 7 (by decide))
noncomputable def mw (h1 h2 k1 k2 : Int) : Int × Int := (Classical.choose (mixw_ex h1 h2 k1 k2), Classical.choose (Classical.choose_spec (mixw_ex h1 h2 k1 k2)))
theorem mw_any (h1 h2 k1 k2 : Int) (w : World) (d : Nat) (hd : Dg w d h1 h2) : Calls Try.prog 63 #[.pointer (some ⟨d, 0, none⟩), .int .u64 k1, .int .u64 k2] w fun e w' =>
    e = .returned (.tuple #[]) ∧ Dg w' d (mw h1 h2 k1 k2).1 (mw h1 h2 k1 k2).2 ∧ Only [d] w w' := Classical.choose_spec (Classical.choose_spec (mixw_ex h1 h2 k1 k2)) w d hd
noncomputable def fold (s : Nat → UInt8) : Nat → Int × Int
  | 0 => (0, 0)
  | i + 1 => mw (fold s i).1 (fold s i).2 (le64 s (16 * i)) (le64 s (16 * i + 8))

set_option maxRecDepth 100000 in
set_option maxHeartbeats 4000000 in
theorem bmix_any (s : Nat → UInt8) (n : Nat) (hn : n ≤ 80) (w : World) (d : Nat) (so : Option Addr) (c : Nat) (hd : Dg w d 0 0) (hb : Byts w so n s) (hne : ∀ b o, so = some ⟨b, o, none⟩ → 0 < n → b ≠ d) (hc : n ≤ c) :
    Calls Try.prog 59 #[.pointer (some ⟨d, 0, none⟩), .slice so n c] w fun e w' =>
      e = .returned (.tuple #[]) ∧ Dg w' d (fold s (n / 16)).1 (fold s (n / 16)).2 ∧ Only [d] w w' := by
  have HB0 := Lib.hid hb
  have HD := Lib.hid hd
  have HNE := Lib.hid hne
  clear hne
  obtain ⟨q, hq⟩ : ∃ q, q = n / 16 := ⟨_, rfl⟩
  have hq1 : (n : Int) / 16 = (q : Int) := by omega
  have hq2 : 16 * q ≤ n := by omega
  have hq5 : q ≤ 5 := by omega
  rw [← hq]
  clear hb hd hq
  have HQ := Lib.hid hq1
  clear hq1
  go_enter Try.func59, Try.ntmps59
  have hq1 := HQ.out
  go_wp2_with fail
  clear hq1
  go_loopw [5] (fun iv wr => ∃ k : Nat, k ≤ q ∧ iv = .int .i64 k ∧ Hid (Dg wr d (fold s k).1 (fold s k).2 ∧ Only [d] w wr)) (fun iv _ => q - (intOf iv).toNat)
  case atStart => exact ⟨0, by omega, rfl, HD.out, Only.refl _ _⟩
  case round =>
    obtain ⟨k, hk, rfl, hR⟩ := hrel
    have HR : Hid (Dg wr d (fold s k).1 (fold s k).2 ∧ Only [d] w wr) := hR
    clear hR
    by_cases hkl : k < q
    · have k1 : 16 * k + 16 ≤ n := by omega
      obtain ⟨b, o, hso, hb⟩ := HB0.out (by omega)
      have hne := HNE.out b o hso (by omega)
      subst hso
      have HB := Lib.hid hb
      clear hb
      go_wp2_with fail
      rw [show (k + 1) * 16 - k * 16 = 16 by omega]
      have hc8 : 16 ≤ c - k * 16 := by omega
      obtain ⟨cc, hcc⟩ : ∃ cc, cc = c - k * 16 := ⟨_, rfl⟩
      rw [← hcc] at hc8 ⊢
      clear hcc
      have i1 : (8 : Int) ≤ (cc : Int) := by omega
      have i2 : (16 : Int) ≤ (cc : Int) := by omega
      have hby : ∀ W, Only [d] w W → ∀ i, i < n → W.cell? ⟨b, o + i, none⟩ = some (.int .u8 ((s i).toNat : Nat)) := fun W hW i hi => (World.cell?_of_block (hW.block b (cell_lt (HB.out i hi)) (by simp; exact hne))).trans (HB.out i hi)
      have HBY := Lib.hid hby
      clear hby
      go_region_held3 (fun w' => Only [d] w w') (first | exact HR.out.2.drew | exact H4.out.1 | exact H3.out.1)
        (first
          | (have := H3; go_at_call 61; refine (u64_any b (o + k * 16 + 8) 8 _ (16 * k + 8) s _ (by decide) ?_).mono ?_; (intro i hi; rw [Nat.add_assoc, Nat.add_assoc, Nat.mul_comm k 16, ← Nat.add_assoc (16 * k)]; exact HBY.out _ H3.out.1 (16 * k + 8 + i) (by omega)); rintro e w4 ⟨rfl, hb⟩; have H4 : Hid (Only [d] w w4 ∧ Dg w4 d (fold s k).1 (fold s k).2) := ⟨H3.out.1.trans (Only.of_below hb), H3.out.2.same hb⟩; clear hb)
          | (go_at_call 61; refine (u64_any b (o + k * 16) 8 _ (16 * k) s _ (by decide) ?_).mono ?_; (intro i hi; rw [Nat.add_assoc, Nat.mul_comm k 16]; exact HBY.out _ HR.out.2.drew (16 * k + i) (by omega)); rintro e w3 ⟨rfl, hb⟩; have H3 : Hid (Only [d] w w3 ∧ Dg w3 d (fold s k).1 (fold s k).2) := ⟨HR.out.2.drew.trans (Only.of_below hb), HR.out.1.drew.same hb⟩; clear hb))
      clear i1 i2 hc8
      go_wp2_with fail
      refine (mw_any _ _ _ _ _ _ H4.out.2).mono ?_
      rintro e w5 ⟨rfl, hd5, ho5⟩
      have H5 : Hid (Dg w5 d (fold s (k + 1)).1 (fold s (k + 1)).2 ∧ Only [d] w w5) := ⟨hd5, H4.out.1.trans ho5⟩
      clear hd5 ho5
      go_wp2_with fail
      go_roundw
      case rel => exact ⟨k + 1, by omega, by go_num, H5⟩
      case measure => simp [intOf]; omega
    · have hkx : q = k := by omega
      subst hkx
      go_wp2_with fail
      go_end0
      exact ⟨rfl, HR.out⟩
end Go.Proofs.Ytbkodehcjhpcmaa
