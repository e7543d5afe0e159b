/- Adding to a filter, testing. -/
import Derived.Test.YtbkodehcjhpcmaaL7
import Derived.Deep.RegionHeld3
namespace Go.Proofs.Ytbkodehcjhpcmaa
open Go.RowKit

/-- The words after data has been added at the first i places. -/
def adds (f : Nat → Nat) (h : Nat → Int) (m : Nat) : Nat → Nat → Nat
  | 0 => f
  | i + 1 => upd (adds f h m i) (place h m i / 64) (orBit (adds f h m i (place h m i / 64)) (place h m i % 64))
def hit (h : Nat → Int) (m i j : Nat) : Bool := (List.range i).any fun t => decide (place h m t = j)
theorem adds_bit (f : Nat → Nat) (h : Nat → Int) (m : Nat) : ∀ i j, bit (adds f h m i) j = (bit f j || hit h m i j)
  | 0, j => by simp [adds, hit]
  | i + 1, j => by
    rw [adds, set_bit, adds_bit f h m i j]
    simp [hit, List.range_succ, List.any_append, Bool.or_assoc]
/-- Is data found? -/
def found (f : Nat → Nat) (h : Nat → Int) (m i : Nat) : Bool := (List.range i).all fun t => bit f (place h m t)
theorem found_succ (f : Nat → Nat) (h : Nat → Int) (m i : Nat) : found f h m (i + 1) = (found f h m i && bit f (place h m i)) := by
  simp [found, List.range_succ, List.all_append]

def hs4 (h : Nat → Int) : Array Value := #[.int .u64 (h 0), .int .u64 (h 1), .int .u64 (h 2), .int .u64 (h 3)]

set_option maxRecDepth 100000 in
set_option maxHeartbeats 2000000 in
theorem add_any {w : World} {B q p b n c m k : Nat} {f : Nat → Nat} (hF : BF w B q p b n c m k f) (hk : k ≤ 8) (hm : 0 < m) (hmn : m ≤ 64 * n) (hn : n ≤ 1000) {so : Option Addr} {dn dc : Nat} {s : Nat → UInt8} (hd : Data w so dn dc s) (hdn : dn ≤ 80) :
    Calls Try.prog 28 #[.pointer (some ⟨q, 0, none⟩), .slice so dn dc] w fun e w' => e = .returned (.pointer (some ⟨q, 0, none⟩)) ∧
      BF w' B q p b n c m k (adds f (hashes s dn) m k) ∧ Only [b] w w' := by
  have HBA := Lib.hid (base_any s dn hdn w so dc hd)
  obtain ⟨h, hh⟩ : ∃ h, h = hashes s dn := ⟨_, rfl⟩
  rw [← hh] at HBA ⊢
  clear hh hd
  have HF := Lib.hid hF
  have hqn := hF.qlt
  have hbn := hF.rs.blt
  clear hF
  go_enter Try.func28, Try.ntmps28
  go_wp2_with fail
  refine HBA.out.mono ?_
  rintro e w1 ⟨rfl, hb1⟩
  have H1 : Hid (BF w1 B q p b n c m k f ∧ Below w.heap.size w w1) := ⟨HF.out.below hb1, hb1⟩
  have hs1 : w.heap.size ≤ w1.heap.size := hb1.size
  clear hb1 HBA
  go_wp2_with fail
  obtain ⟨H, hH⟩ : ∃ H, H = w1.heap.size := ⟨_, rfl⟩
  rw [← hH]
  have H2 : Hid (BF (w1.alloc (.cells #[.int .u64 (h 0), .int .u64 (h 1), .int .u64 (h 2), .int .u64 (h 3)] 69)) B q p b n c m k f ∧ Blk (w1.alloc (.cells #[.int .u64 (h 0), .int .u64 (h 1), .int .u64 (h 2), .int .u64 (h 3)] 69)) H #[.int .u64 (h 0), .int .u64 (h 1), .int .u64 (h 2), .int .u64 (h 3)] 69 ∧ Only [b] w (w1.alloc (.cells #[.int .u64 (h 0), .int .u64 (h 1), .int .u64 (h 2), .int .u64 (h 3)] 69))) :=
    ⟨H1.out.1.below ((Below.refl _ _).alloc (Nat.le_refl _) _), by rw [hH]; exact Blk.new w1 _ _, (Only.of_below (H1.out.2.trans ((Below.refl w.heap.size w1).alloc hs1 _)))⟩
  have hHb : w.heap.size ≤ H := by omega
  generalize (w1.alloc (.cells #[.int .u64 (h 0), .int .u64 (h 1), .int .u64 (h 2), .int .u64 (h 3)] 69)) = w2 at H2 ⊢
  clear hH hs1 H1
  go_loopw [6] (fun iv wr => ∃ i : Nat, i ≤ k ∧ iv = .int .u64 i ∧ Hid (BF wr B q p b n c m k (adds f h m i) ∧ Blk wr H #[.int .u64 (h 0), .int .u64 (h 1), .int .u64 (h 2), .int .u64 (h 3)] 69 ∧ Only [b] w wr)) (fun iv _ => k - (intOf iv).toNat)
  case atStart => exact ⟨0, by omega, rfl, H2⟩
  case round =>
    obtain ⟨i, hi, rfl, hR⟩ := hrel
    have HR : Hid (BF wr B q p b n c m k (adds f h m i) ∧ Blk wr H #[.int .u64 (h 0), .int .u64 (h 1), .int .u64 (h 2), .int .u64 (h 3)] 69 ∧ Only [b] w wr) := hR
    clear hR
    have c1 := HR.out.1.c1
    by_cases hik : i < k
    · have hpl : place h m i < 64 * n := Nat.lt_of_lt_of_le (place_lt h hm i) hmn
      have HL := Lib.hid (fun (W : World) (hW : BF W B q p b n c m k (adds f h m i)) => floc_any hW h i (by omega) hm (by omega))
      have hcells : ∀ W, Only [b] wr W → W.cell? ⟨q, 2, none⟩ = some (.pointer (some ⟨p, 0, none⟩)) ∧ W.cell? ⟨H, 0, none⟩ = some (.int .u64 (h 0)) ∧ W.cell? ⟨H, 1, none⟩ = some (.int .u64 (h 1)) ∧ W.cell? ⟨H, 2, none⟩ = some (.int .u64 (h 2)) ∧ W.cell? ⟨H, 3, none⟩ = some (.int .u64 (h 3)) := by
        intro W hW
        have hH := HR.out.2.1.only hW (by simp; omega)
        obtain ⟨T, hq⟩ := HR.out.1.fq
        exact ⟨(hq.only hW (by simp; exact HR.out.1.qb)).cell rfl, hH.cell rfl, hH.cell rfl, hH.cell rfl, hH.cell rfl⟩
      have HCE := Lib.hid hcells
      obtain ⟨y0, y1, y2, y3, y4⟩ := hcells wr (Only.refl _ _)
      clear hcells
      unfold hv at HL
      go_wp2_with fail
      go_region_held3 (fun w' => w'.cell? ⟨q, 2, none⟩ = some (.pointer (some ⟨p, 0, none⟩)) ∧ w'.cell? ⟨H, 0, none⟩ = some (.int .u64 (h 0)) ∧ w'.cell? ⟨H, 1, none⟩ = some (.int .u64 (h 1)) ∧ w'.cell? ⟨H, 2, none⟩ = some (.int .u64 (h 2)) ∧ w'.cell? ⟨H, 3, none⟩ = some (.int .u64 (h 3)))
        (first | exact ⟨y0, y1, y2, y3, y4⟩ | exact HCE.out _ H4.out.2 | exact HCE.out _ H3.out.2)
        (first
          | (have := H3; go_at_call 42; refine (set_any H3.out.1.rs hn (place h m i) hpl).mono ?_; rintro e w4 ⟨rfl, hr, ho⟩; have H4 : Hid (BF w4 B q p b n c m k (adds f h m (i + 1)) ∧ Only [b] wr w4) := ⟨H3.out.1.with hr ho, H3.out.2.trans ho⟩; clear hr ho)
          | (go_at_call 41; refine (HL.out _ (HR.out.1.below (Below.refl _ _).drew)).mono ?_; rintro e w3 ⟨rfl, hb⟩; have H3 : Hid (BF w3 B q p b n c m k (adds f h m i) ∧ Only [b] wr w3) := ⟨HR.out.1.below ((Below.refl _ _).drew.trans hb), Only.of_below ((Below.refl _ _).drew.trans hb)⟩; clear hb))
      clear y0 y1 y2 y3 y4 hpl c1
      have H5 : Hid (BF w4 B q p b n c m k (adds f h m (i + 1)) ∧ Blk w4 H #[.int .u64 (h 0), .int .u64 (h 1), .int .u64 (h 2), .int .u64 (h 3)] 69 ∧ Only [b] w w4) := ⟨H4.out.1, HR.out.2.1.only H4.out.2 (by simp; omega), HR.out.2.2.trans H4.out.2⟩
      go_wp2_with fail
      go_roundw
      case rel => exact ⟨i + 1, by omega, by go_num, H5⟩
      case measure => simp [intOf]; omega
    · have hkx : k = i := by omega
      subst hkx
      go_wp2_with fail
      go_ret
      exact ⟨rfl, HR.out.1, HR.out.2.2⟩
end Go.Proofs.Ytbkodehcjhpcmaa
