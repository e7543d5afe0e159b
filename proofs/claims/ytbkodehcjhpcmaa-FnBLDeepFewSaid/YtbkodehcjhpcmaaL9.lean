/- Testing a filter; testing and adding. -/
import Derived.Test.YtbkodehcjhpcmaaL8
namespace Go.Proofs.Ytbkodehcjhpcmaa
open Go.RowKit

theorem found_false {f : Nat → Nat} {h : Nat → Int} {m i k : Nat} (hi : i < k) (hb : bit f (place h m i) = false) : found f h m k = false := by
  simp only [found, List.all_eq_false]
  exact ⟨i, by simpa using hi, by simp [hb]⟩
/-- The words after data has been tested and added at the first i places, where it was not there. -/
def orAdds (f : Nat → Nat) (h : Nat → Int) (m : Nat) : Nat → Nat → Nat
  | 0 => f
  | i + 1 => if bit (orAdds f h m i) (place h m i) then orAdds f h m i else upd (orAdds f h m i) (place h m i / 64) (orBit (orAdds f h m i (place h m i / 64)) (place h m i % 64))
theorem orAdds_bit (f : Nat → Nat) (h : Nat → Int) (m : Nat) : ∀ i j, bit (orAdds f h m i) j = (bit f j || hit h m i j)
  | 0, j => by simp [orAdds, hit]
  | i + 1, j => by
    have ih := orAdds_bit f h m i
    rw [orAdds]
    split
    · rename_i hb
      rw [ih j]
      simp only [hit, List.range_succ, List.any_append, List.any_cons, List.any_nil, Bool.or_false]
      by_cases e : place h m i = j
      · rw [← e]
        rw [ih] at hb
        simp only [hit] at hb
        rw [← Bool.or_assoc, hb]; simp
      · simp [e]
    · rw [set_bit, ih j]
      simp [hit, List.range_succ, List.any_append, Bool.or_assoc]
/-- What is found on the way: whether all places that were looked at were set when they were. -/
def seen (f : Nat → Nat) (h : Nat → Int) (m : Nat) : Nat → Bool
  | 0 => true
  | i + 1 => seen f h m i && (bit f (place h m i) || hit h m i (place h m i))
theorem seen_le (f : Nat → Nat) (h : Nat → Int) (m : Nat) : ∀ i, seen f h m i = found f h m i
  | 0 => rfl
  | i + 1 => by
    rw [seen, found_succ, seen_le f h m i]
    cases hf : found f h m i
    · rfl
    · rw [Bool.true_and, Bool.true_and]
      cases hb : bit f (place h m i)
      · rw [Bool.false_or]
        cases hh : hit h m i (place h m i)
        · rfl
        · simp only [hit, List.any_eq_true, decide_eq_true_eq] at hh
          obtain ⟨t, ht, he⟩ := hh
          simp only [found, List.all_eq_true] at hf
          have := hf t ht
          rw [he, hb] at this
          exact this.symm
      · rfl
set_option maxRecDepth 100000 in
set_option maxHeartbeats 2000000 in
theorem Test_any {w : World} {B q p b n c m k : Nat} {f : Nat → Nat} (hF : BF w B q p b n c m k f) (hk : k ≤ 8) (hm : 0 < m) (hmn : m ≤ 64 * n) (hn : n ≤ 1000) {so : Option Addr} {dn dc : Nat} {s : Nat → UInt8} (hd : Data w so dn dc s) (hdn : dn ≤ 80) :
    Calls Try.prog 25 #[.pointer (some ⟨q, 0, none⟩), .slice so dn dc] w fun e w' => e = .returned (.bool (found f (hashes s dn) m k)) ∧ Below w.heap.size w w' := by
  have HBA := Lib.hid (base_any s dn hdn w so dc hd)
  obtain ⟨h, hh⟩ : ∃ h, h = hashes s dn := ⟨_, rfl⟩
  rw [← hh] at HBA ⊢
  clear hh hd
  have HF := Lib.hid hF
  have hqn := hF.qlt
  have hbn := hF.rs.blt
  clear hF
  go_enter Try.func25, Try.ntmps25
  go_wp2_with fail
  refine HBA.out.mono ?_
  rintro e w1 ⟨rfl, hb1⟩
  have H1 : Hid (BF w1 B q p b n c m k f ∧ Below w.heap.size w w1) := ⟨HF.out.below hb1, hb1⟩
  have hs1 : w.heap.size ≤ w1.heap.size := hb1.size
  clear hb1 HBA
  go_wp2_with fail
  obtain ⟨H, hH⟩ : ∃ H, H = w1.heap.size := ⟨_, rfl⟩
  rw [← hH]
  have H2 : Hid (BF (w1.alloc (.cells #[.int .u64 (h 0), .int .u64 (h 1), .int .u64 (h 2), .int .u64 (h 3)] 69)) B q p b n c m k f ∧ Blk (w1.alloc (.cells #[.int .u64 (h 0), .int .u64 (h 1), .int .u64 (h 2), .int .u64 (h 3)] 69)) H #[.int .u64 (h 0), .int .u64 (h 1), .int .u64 (h 2), .int .u64 (h 3)] 69 ∧ Only [] w (w1.alloc (.cells #[.int .u64 (h 0), .int .u64 (h 1), .int .u64 (h 2), .int .u64 (h 3)] 69))) :=
    ⟨H1.out.1.below ((Below.refl _ _).alloc (Nat.le_refl _) _), by rw [hH]; exact Blk.new w1 _ _, (Only.of_below (H1.out.2.trans ((Below.refl w.heap.size w1).alloc hs1 _)))⟩
  have hHb : w.heap.size ≤ H := by omega
  generalize (w1.alloc (.cells #[.int .u64 (h 0), .int .u64 (h 1), .int .u64 (h 2), .int .u64 (h 3)] 69)) = w2 at H2 ⊢
  clear hH hs1 H1
  go_loopw [6] (fun iv wr => ∃ i : Nat, i ≤ k ∧ iv = .int .u64 i ∧ Hid (found f h m i = true ∧ BF wr B q p b n c m k (f) ∧ Blk wr H #[.int .u64 (h 0), .int .u64 (h 1), .int .u64 (h 2), .int .u64 (h 3)] 69 ∧ Only [] w wr)) (fun iv _ => k - (intOf iv).toNat)
  case atStart => exact ⟨0, by omega, rfl, rfl, H2.out⟩
  case round =>
    obtain ⟨i, hi, rfl, hR0⟩ := hrel
    have HFD : Hid (found f h m i = true) := hR0.1
    have HR : Hid (BF wr B q p b n c m k (f) ∧ Blk wr H #[.int .u64 (h 0), .int .u64 (h 1), .int .u64 (h 2), .int .u64 (h 3)] 69 ∧ Only [] w wr) := hR0.2
    clear hR0
    have c1 := HR.out.1.c1
    by_cases hik : i < k
    · have hpl : place h m i < 64 * n := Nat.lt_of_lt_of_le (place_lt h hm i) hmn
      have HL := Lib.hid (fun (W : World) (hW : BF W B q p b n c m k f) => floc_any hW h i (by omega) hm (by omega))
      have hcells : ∀ W, Only [b] wr W → W.cell? ⟨q, 2, none⟩ = some (.pointer (some ⟨p, 0, none⟩)) ∧ W.cell? ⟨H, 0, none⟩ = some (.int .u64 (h 0)) ∧ W.cell? ⟨H, 1, none⟩ = some (.int .u64 (h 1)) ∧ W.cell? ⟨H, 2, none⟩ = some (.int .u64 (h 2)) ∧ W.cell? ⟨H, 3, none⟩ = some (.int .u64 (h 3)) := by
        intro W hW
        have hH := HR.out.2.1.only hW (by simp; omega)
        obtain ⟨T, hq⟩ := HR.out.1.fq
        exact ⟨(hq.only hW (by simp; exact HR.out.1.qb)).cell rfl, hH.cell rfl, hH.cell rfl, hH.cell rfl, hH.cell rfl⟩
      have HCE := Lib.hid hcells
      obtain ⟨y0, y1, y2, y3, y4⟩ := hcells wr (Only.refl _ _)
      clear hcells
      unfold hv at HL
      have HX : Hid (found f h m (i + 1) = bit f (place h m i)) := by unfold Hid; rw [found_succ, HFD.out, Bool.true_and]
      have HY : Hid (bit f (place h m i) = false → found f h m k = false) := fun hb => found_false hik hb
      go_wp2_with fail
      go_region_held3 (fun w' => w'.cell? ⟨q, 2, none⟩ = some (.pointer (some ⟨p, 0, none⟩)) ∧ w'.cell? ⟨H, 0, none⟩ = some (.int .u64 (h 0)) ∧ w'.cell? ⟨H, 1, none⟩ = some (.int .u64 (h 1)) ∧ w'.cell? ⟨H, 2, none⟩ = some (.int .u64 (h 2)) ∧ w'.cell? ⟨H, 3, none⟩ = some (.int .u64 (h 3)))
        (first | exact ⟨y0, y1, y2, y3, y4⟩ | exact HCE.out _ H4.out.2 | exact HCE.out _ H3.out.2)
        (first
          | (have := H3; go_at_call 40; refine (test_any H3.out.1.rs hn (place h m i) hpl).mono ?_; rintro e w4 ⟨rfl, dd, rfl⟩; have H4 : Hid (BF (w3.drewN dd) B q p b n c m k f ∧ Only [b] wr (w3.drewN dd)) := ⟨H3.out.1.below (below_drewN (Below.refl _ _) dd), H3.out.2.drewN dd⟩)
          | (go_at_call 41; refine (HL.out _ (HR.out.1.below (Below.refl _ _).drew)).mono ?_; rintro e w3 ⟨rfl, hb⟩; have H3 : Hid (BF w3 B q p b n c m k f ∧ Only [b] wr w3) := ⟨HR.out.1.below ((Below.refl _ _).drew.trans hb), Only.of_below ((Below.refl _ _).drew.trans hb)⟩; have H3b : Hid (Only [] wr w3) := Only.of_below ((Below.refl _ _).drew.trans hb); clear hb))
      clear y0 y1 y2 y3 y4 hpl c1
      have H5 : Hid (BF (w3.drewN dd) B q p b n c m k f ∧ Blk (w3.drewN dd) H #[.int .u64 (h 0), .int .u64 (h 1), .int .u64 (h 2), .int .u64 (h 3)] 69 ∧ Only [] w (w3.drewN dd)) := ⟨H4.out.1, HR.out.2.1.only (H3b.out.drewN dd) (by simp), HR.out.2.2.trans (H3b.out.drewN dd)⟩
      cases hbb : bit f (place h m i)
      · have HZ := Lib.hid (HY.out hbb)
        rw [hbb] at HX
        clear HY
        go_wp2_with fail
        go_ret
        exact ⟨retB HZ.out.symm, H5.out.2.2.nil⟩
      · rw [hbb] at HX
        clear HY
        go_wp2_with fail
        go_roundw
        case rel => exact ⟨i + 1, by omega, by go_num, HX.out, H5.out⟩
        case measure => simp [intOf]; omega
    · have hkx : k = i := by omega
      subst hkx
      go_wp2_with fail
      go_ret
      exact ⟨retB HFD.out.symm, HR.out.2.2.nil⟩
set_option maxRecDepth 100000 in
set_option maxHeartbeats 2000000 in
theorem TestAndAdd_any {w : World} {B q p b n c m k : Nat} {f : Nat → Nat} (hF : BF w B q p b n c m k f) (hk : k ≤ 8) (hm : 0 < m) (hmn : m ≤ 64 * n) (hn : n ≤ 1000) {so : Option Addr} {dn dc : Nat} {s : Nat → UInt8} (hd : Data w so dn dc s) (hdn : dn ≤ 80) :
    Calls Try.prog 26 #[.pointer (some ⟨q, 0, none⟩), .slice so dn dc] w fun e w' => e = .returned (.bool (found f (hashes s dn) m k)) ∧ BF w' B q p b n c m k (adds f (hashes s dn) m k) ∧ Only [b] w w' := by
  have HBA := Lib.hid (base_any s dn hdn w so dc hd)
  obtain ⟨h, hh⟩ : ∃ h, h = hashes s dn := ⟨_, rfl⟩
  rw [← hh] at HBA ⊢
  clear hh hd
  have HF := Lib.hid hF
  have hqn := hF.qlt
  have hbn := hF.rs.blt
  clear hF
  go_enter Try.func26, Try.ntmps26
  go_wp2_with fail
  refine HBA.out.mono ?_
  rintro e w1 ⟨rfl, hb1⟩
  have H1 : Hid (BF w1 B q p b n c m k f ∧ Below w.heap.size w w1) := ⟨HF.out.below hb1, hb1⟩
  have hs1 : w.heap.size ≤ w1.heap.size := hb1.size
  clear hb1 HBA
  go_wp2_with fail
  obtain ⟨H, hH⟩ : ∃ H, H = w1.heap.size := ⟨_, rfl⟩
  rw [← hH]
  have H2 : Hid (BF (w1.alloc (.cells #[.int .u64 (h 0), .int .u64 (h 1), .int .u64 (h 2), .int .u64 (h 3)] 69)) B q p b n c m k f ∧ Blk (w1.alloc (.cells #[.int .u64 (h 0), .int .u64 (h 1), .int .u64 (h 2), .int .u64 (h 3)] 69)) H #[.int .u64 (h 0), .int .u64 (h 1), .int .u64 (h 2), .int .u64 (h 3)] 69 ∧ Only [b] w (w1.alloc (.cells #[.int .u64 (h 0), .int .u64 (h 1), .int .u64 (h 2), .int .u64 (h 3)] 69))) :=
    ⟨H1.out.1.below ((Below.refl _ _).alloc (Nat.le_refl _) _), by rw [hH]; exact Blk.new w1 _ _, (Only.of_below (H1.out.2.trans ((Below.refl w.heap.size w1).alloc hs1 _)))⟩
  have hHb : w.heap.size ≤ H := by omega
  generalize (w1.alloc (.cells #[.int .u64 (h 0), .int .u64 (h 1), .int .u64 (h 2), .int .u64 (h 3)] 69)) = w2 at H2 ⊢
  clear hH hs1 H1
  go_loopw [5, 7] (fun pv iv wr => ∃ i : Nat, i ≤ k ∧ iv = .int .u64 i ∧ pv = .bool (seen f h m i) ∧ Hid (BF wr B q p b n c m k (adds f h m i) ∧ Blk wr H #[.int .u64 (h 0), .int .u64 (h 1), .int .u64 (h 2), .int .u64 (h 3)] 69 ∧ Only [b] w wr)) (fun _ iv _ => k - (intOf iv).toNat)
  case atStart => exact ⟨0, by omega, rfl, rfl, H2⟩
  case round =>
    obtain ⟨i, hi, rfl, rfl, hR⟩ := hrel
    have HR : Hid (BF wr B q p b n c m k (adds f h m i) ∧ Blk wr H #[.int .u64 (h 0), .int .u64 (h 1), .int .u64 (h 2), .int .u64 (h 3)] 69 ∧ Only [b] w wr) := hR
    clear hR
    have c1 := HR.out.1.c1
    by_cases hik : i < k
    · have hpl : place h m i < 64 * n := Nat.lt_of_lt_of_le (place_lt h hm i) hmn
      have HL := Lib.hid (floc_any HR.out.1 h i (by omega) hm (by omega))
      have hcells : ∀ W, Only [b] wr W → W.cell? ⟨q, 2, none⟩ = some (.pointer (some ⟨p, 0, none⟩)) ∧ W.cell? ⟨H, 0, none⟩ = some (.int .u64 (h 0)) ∧ W.cell? ⟨H, 1, none⟩ = some (.int .u64 (h 1)) ∧ W.cell? ⟨H, 2, none⟩ = some (.int .u64 (h 2)) ∧ W.cell? ⟨H, 3, none⟩ = some (.int .u64 (h 3)) := by
        intro W hW
        have hH := HR.out.2.1.only hW (by simp; omega)
        obtain ⟨T, hq⟩ := HR.out.1.fq
        exact ⟨(hq.only hW (by simp; exact HR.out.1.qb)).cell rfl, hH.cell rfl, hH.cell rfl, hH.cell rfl, hH.cell rfl⟩
      have HCE := Lib.hid hcells
      obtain ⟨y0, y1, y2, y3, y4⟩ := hcells wr (Only.refl _ _)
      clear hcells
      unfold hv at HL
      have hbt : bit (adds f h m i) (place h m i) = (bit f (place h m i) || hit h m i (place h m i)) := adds_bit f h m i _
      have HBT := Lib.hid hbt
      clear hbt
      go_wp2_with fail
      refine HL.out.mono ?_
      rintro e w3 ⟨rfl, hb⟩
      have H3 : Hid (BF w3 B q p b n c m k (adds f h m i) ∧ Only [b] wr w3) := ⟨HR.out.1.below hb, Only.of_below hb⟩
      clear hb y0 y1 y2 y3 y4 c1
      obtain ⟨y0, _, _, _, _⟩ := HCE.out _ H3.out.2
      go_wp2_with fail
      refine (test_any H3.out.1.rs hn (place h m i) hpl).mono ?_
      rintro e w4 ⟨rfl, dd, hw4⟩
      have H4 : Hid (BF w4 B q p b n c m k (adds f h m i) ∧ Only [b] wr w4) := by rw [hw4]; exact ⟨H3.out.1.below (below_drewN (Below.refl _ _) dd), H3.out.2.drewN dd⟩
      clear hw4 y0
      obtain ⟨y0, _, _, _, _⟩ := HCE.out _ H4.out.2
      rw [HBT.out]
      cases hbb : (bit f (place h m i) || hit h m i (place h m i))
      · have HSE : Hid (seen f h m (i + 1) = false) := by unfold Hid; rw [seen, hbb, Bool.and_false]
        have HBB := Lib.hid hbb
        clear hbb
        go_wp2_with fail
        refine (set_any H4.out.1.rs hn (place h m i) hpl).mono ?_
        rintro e w5 ⟨rfl, hr, ho⟩
        have H5 : Hid (BF w5 B q p b n c m k (adds f h m (i + 1)) ∧ Only [b] wr w5) := ⟨H4.out.1.with hr ho, H4.out.2.trans ho⟩
        clear hr ho
        have H6 : Hid (BF w5 B q p b n c m k (adds f h m (i + 1)) ∧ Blk w5 H #[.int .u64 (h 0), .int .u64 (h 1), .int .u64 (h 2), .int .u64 (h 3)] 69 ∧ Only [b] w w5) := ⟨H5.out.1, HR.out.2.1.only H5.out.2 (by simp; omega), HR.out.2.2.trans H5.out.2⟩
        go_wp2_with fail
        go_roundw
        case rel => exact ⟨i + 1, by omega, by go_num, by rw [HSE.out], H6⟩
        case measure => simp [intOf]; omega
      · have HSE : Hid (seen f h m (i + 1) = seen f h m i) := by unfold Hid; rw [seen, hbb, Bool.and_true]
        have HBB := Lib.hid hbb
        clear hbb
        go_wp2_with fail
        refine (set_any H4.out.1.rs hn (place h m i) hpl).mono ?_
        rintro e w5 ⟨rfl, hr, ho⟩
        have H5 : Hid (BF w5 B q p b n c m k (adds f h m (i + 1)) ∧ Only [b] wr w5) := ⟨H4.out.1.with hr ho, H4.out.2.trans ho⟩
        clear hr ho
        have H6 : Hid (BF w5 B q p b n c m k (adds f h m (i + 1)) ∧ Blk w5 H #[.int .u64 (h 0), .int .u64 (h 1), .int .u64 (h 2), .int .u64 (h 3)] 69 ∧ Only [b] w w5) := ⟨H5.out.1, HR.out.2.1.only H5.out.2 (by simp; omega), HR.out.2.2.trans H5.out.2⟩
        go_wp2_with fail
        go_roundw
        case rel => exact ⟨i + 1, by omega, by go_num, by rw [HSE.out], H6⟩
        case measure => simp [intOf]; omega
    · have hkx : k = i := by omega
      subst hkx
      go_wp2_with fail
      go_ret
      exact ⟨retB (seen_le f h m k), HR.out.1, HR.out.2.2⟩
set_option maxRecDepth 100000 in
set_option maxHeartbeats 2000000 in
theorem TestOrAdd_any {w : World} {B q p b n c m k : Nat} {f : Nat → Nat} (hF : BF w B q p b n c m k f) (hk : k ≤ 8) (hm : 0 < m) (hmn : m ≤ 64 * n) (hn : n ≤ 1000) {so : Option Addr} {dn dc : Nat} {s : Nat → UInt8} (hd : Data w so dn dc s) (hdn : dn ≤ 80) :
    Calls Try.prog 27 #[.pointer (some ⟨q, 0, none⟩), .slice so dn dc] w fun e w' => e = .returned (.bool (found f (hashes s dn) m k)) ∧ BF w' B q p b n c m k (orAdds f (hashes s dn) m k) ∧ Only [b] w w' := by
  have HBA := Lib.hid (base_any s dn hdn w so dc hd)
  obtain ⟨h, hh⟩ : ∃ h, h = hashes s dn := ⟨_, rfl⟩
  rw [← hh] at HBA ⊢
  clear hh hd
  have HF := Lib.hid hF
  have hqn := hF.qlt
  have hbn := hF.rs.blt
  clear hF
  go_enter Try.func27, Try.ntmps27
  go_wp2_with fail
  refine HBA.out.mono ?_
  rintro e w1 ⟨rfl, hb1⟩
  have H1 : Hid (BF w1 B q p b n c m k f ∧ Below w.heap.size w w1) := ⟨HF.out.below hb1, hb1⟩
  have hs1 : w.heap.size ≤ w1.heap.size := hb1.size
  clear hb1 HBA
  go_wp2_with fail
  obtain ⟨H, hH⟩ : ∃ H, H = w1.heap.size := ⟨_, rfl⟩
  rw [← hH]
  have H2 : Hid (BF (w1.alloc (.cells #[.int .u64 (h 0), .int .u64 (h 1), .int .u64 (h 2), .int .u64 (h 3)] 69)) B q p b n c m k f ∧ Blk (w1.alloc (.cells #[.int .u64 (h 0), .int .u64 (h 1), .int .u64 (h 2), .int .u64 (h 3)] 69)) H #[.int .u64 (h 0), .int .u64 (h 1), .int .u64 (h 2), .int .u64 (h 3)] 69 ∧ Only [b] w (w1.alloc (.cells #[.int .u64 (h 0), .int .u64 (h 1), .int .u64 (h 2), .int .u64 (h 3)] 69))) :=
    ⟨H1.out.1.below ((Below.refl _ _).alloc (Nat.le_refl _) _), by rw [hH]; exact Blk.new w1 _ _, (Only.of_below (H1.out.2.trans ((Below.refl w.heap.size w1).alloc hs1 _)))⟩
  have hHb : w.heap.size ≤ H := by omega
  generalize (w1.alloc (.cells #[.int .u64 (h 0), .int .u64 (h 1), .int .u64 (h 2), .int .u64 (h 3)] 69)) = w2 at H2 ⊢
  clear hH hs1 H1
  go_loopw [5, 7] (fun pv iv wr => ∃ i : Nat, i ≤ k ∧ iv = .int .u64 i ∧ pv = .bool (seen f h m i) ∧ Hid (BF wr B q p b n c m k (orAdds f h m i) ∧ Blk wr H #[.int .u64 (h 0), .int .u64 (h 1), .int .u64 (h 2), .int .u64 (h 3)] 69 ∧ Only [b] w wr)) (fun _ iv _ => k - (intOf iv).toNat)
  case atStart => exact ⟨0, by omega, rfl, rfl, H2⟩
  case round =>
    obtain ⟨i, hi, rfl, rfl, hR⟩ := hrel
    have HR : Hid (BF wr B q p b n c m k (orAdds f h m i) ∧ Blk wr H #[.int .u64 (h 0), .int .u64 (h 1), .int .u64 (h 2), .int .u64 (h 3)] 69 ∧ Only [b] w wr) := hR
    clear hR
    have c1 := HR.out.1.c1
    by_cases hik : i < k
    · have hpl : place h m i < 64 * n := Nat.lt_of_lt_of_le (place_lt h hm i) hmn
      have HL := Lib.hid (floc_any HR.out.1 h i (by omega) hm (by omega))
      have hcells : ∀ W, Only [b] wr W → W.cell? ⟨q, 2, none⟩ = some (.pointer (some ⟨p, 0, none⟩)) ∧ W.cell? ⟨H, 0, none⟩ = some (.int .u64 (h 0)) ∧ W.cell? ⟨H, 1, none⟩ = some (.int .u64 (h 1)) ∧ W.cell? ⟨H, 2, none⟩ = some (.int .u64 (h 2)) ∧ W.cell? ⟨H, 3, none⟩ = some (.int .u64 (h 3)) := by
        intro W hW
        have hH := HR.out.2.1.only hW (by simp; omega)
        obtain ⟨T, hq⟩ := HR.out.1.fq
        exact ⟨(hq.only hW (by simp; exact HR.out.1.qb)).cell rfl, hH.cell rfl, hH.cell rfl, hH.cell rfl, hH.cell rfl⟩
      have HCE := Lib.hid hcells
      obtain ⟨y0, y1, y2, y3, y4⟩ := hcells wr (Only.refl _ _)
      clear hcells
      unfold hv at HL
      have hbt : bit (orAdds f h m i) (place h m i) = (bit f (place h m i) || hit h m i (place h m i)) := orAdds_bit f h m i _
      have HBT := Lib.hid hbt
      clear hbt
      go_wp2_with fail
      refine HL.out.mono ?_
      rintro e w3 ⟨rfl, hb⟩
      have H3 : Hid (BF w3 B q p b n c m k (orAdds f h m i) ∧ Only [b] wr w3) := ⟨HR.out.1.below hb, Only.of_below hb⟩
      clear hb y0 y1 y2 y3 y4 c1
      obtain ⟨y0, _, _, _, _⟩ := HCE.out _ H3.out.2
      go_wp2_with fail
      refine (test_any H3.out.1.rs hn (place h m i) hpl).mono ?_
      rintro e w4 ⟨rfl, dd, hw4⟩
      have H4 : Hid (BF w4 B q p b n c m k (orAdds f h m i) ∧ Only [b] wr w4) := by rw [hw4]; exact ⟨H3.out.1.below (below_drewN (Below.refl _ _) dd), H3.out.2.drewN dd⟩
      clear hw4 y0
      obtain ⟨y0, _, _, _, _⟩ := HCE.out _ H4.out.2
      rw [HBT.out]
      cases hbb : (bit f (place h m i) || hit h m i (place h m i))
      · have HSE : Hid (seen f h m (i + 1) = false) := by unfold Hid; rw [seen, hbb, Bool.and_false]
        have HBB := Lib.hid hbb
        clear hbb
        go_wp2_with fail
        refine (set_any H4.out.1.rs hn (place h m i) hpl).mono ?_
        rintro e w5 ⟨rfl, hr, ho⟩
        have H5 : Hid (BF w5 B q p b n c m k (orAdds f h m (i + 1)) ∧ Only [b] wr w5) := ⟨H4.out.1.with (by rw [orAdds, HBT.out, if_neg (by rw [HBB.out]; decide)]; exact hr) ho, H4.out.2.trans ho⟩
        clear hr ho
        have H6 : Hid (BF w5 B q p b n c m k (orAdds f h m (i + 1)) ∧ Blk w5 H #[.int .u64 (h 0), .int .u64 (h 1), .int .u64 (h 2), .int .u64 (h 3)] 69 ∧ Only [b] w w5) := ⟨H5.out.1, HR.out.2.1.only H5.out.2 (by simp; omega), HR.out.2.2.trans H5.out.2⟩
        go_wp2_with fail
        go_roundw
        case rel => exact ⟨i + 1, by omega, by go_num, by rw [HSE.out], H6⟩
        case measure => simp [intOf]; omega
      · have HSE : Hid (seen f h m (i + 1) = seen f h m i) := by unfold Hid; rw [seen, hbb, Bool.and_true]
        have HBB := Lib.hid hbb
        clear hbb
        have H5 : Hid (BF w4 B q p b n c m k (orAdds f h m (i + 1)) ∧ Only [b] wr w4) := ⟨by rw [orAdds, HBT.out, if_pos HBB.out]; exact H4.out.1, H4.out.2⟩
        have H6 : Hid (BF w4 B q p b n c m k (orAdds f h m (i + 1)) ∧ Blk w4 H #[.int .u64 (h 0), .int .u64 (h 1), .int .u64 (h 2), .int .u64 (h 3)] 69 ∧ Only [b] w w4) := ⟨H5.out.1, HR.out.2.1.only H5.out.2 (by simp; omega), HR.out.2.2.trans H5.out.2⟩
        go_wp2_with fail
        go_roundw
        case rel => exact ⟨i + 1, by omega, by go_num, by rw [HSE.out], H6⟩
        case measure => simp [intOf]; omega
    · have hkx : k = i := by omega
      subst hkx
      go_wp2_with fail
      go_ret
      exact ⟨retB (seen_le f h m k), HR.out.1, HR.out.2.2⟩
end Go.Proofs.Ytbkodehcjhpcmaa
