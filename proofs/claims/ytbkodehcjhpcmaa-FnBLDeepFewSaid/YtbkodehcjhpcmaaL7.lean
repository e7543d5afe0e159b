/- Where data lies in a filter. -/
import Derived.Test.YtbkodehcjhpcmaaL5
import Derived.Test.YtbkodehcjhpcmaaL6
namespace Go.Proofs.Ytbkodehcjhpcmaa
open Go.RowKit

/-- Four hashes as a value. -/
def hv (h : Nat → Int) : Value := .agg #[.int .u64 (h 0), .int .u64 (h 1), .int .u64 (h 2), .int .u64 (h 3)]
def locI (h : Nat → Int) (i : Nat) : Int := IntKind.u64.wrap (h (i % 2) + IntKind.u64.wrap ((i : Int) * h (2 + ((i + i % 2) % 4) / 2)))
theorem locI_lo (h : Nat → Int) (i : Nat) : 0 ≤ locI h i := by unfold locI; rw [IntKind.wrap_u64]; omega
theorem locI_hi (h : Nat → Int) (i : Nat) : locI h i < 18446744073709551616 := by unfold locI; rw [IntKind.wrap_u64]; omega
set_option maxRecDepth 100000 in
set_option maxHeartbeats 1000000 in
theorem loc_any (h : Nat → Int) (i : Nat) (hi : i < 8) (w : World) :
    Calls Try.prog 52 #[hv h, .int .u64 i] w fun e w' => e = .returned (.int .u64 (locI h i)) ∧ Below w.heap.size w w' := by
  have hh : i = 0 ∨ i = 1 ∨ i = 2 ∨ i = 3 ∨ i = 4 ∨ i = 5 ∨ i = 6 ∨ i = 7 := by omega
  unfold hv
  rcases hh with rfl | rfl | rfl | rfl | rfl | rfl | rfl | rfl
  all_goals
    go_enter Try.func52, Try.ntmps52
    go_wp2_with fail
    go_quiet (fail)
    go_wp2_with fail
    go_ret
    refine ⟨?_, below_drewN ((Below.refl _ _).alloc (Nat.le_refl _) _) nq⟩
    first
      | exact retI rfl
      | exact retI (by simp [locI, IntKind.wrap_u64])
/-- Where the i-th of the hashes lies. -/
def place (h : Nat → Int) (m i : Nat) : Nat := (locI h i).toNat % m
theorem place_lt (h : Nat → Int) {m : Nat} (hm : 0 < m) (i : Nat) : place h m i < m := Nat.mod_lt _ hm
/-- A filter in memory, in blocks from B on. -/
structure BF (w : World) (B q p b n c m k : Nat) (f : Nat → Nat) : Prop where
  fq : ∃ T, Blk w q #[.int .u64 (m : Nat), .int .u64 (k : Nat), .pointer (some ⟨p, 0, none⟩)] T
  rs : RS w p b n c f
  qp : q ≠ p
  qb : q ≠ b
  Bq : B ≤ q
  Bp : B ≤ p
  Bb : B ≤ b
section
variable {w w' : World} {B q p b n c m k : Nat} {f : Nat → Nat}
theorem BF.c0 (h : BF w B q p b n c m k f) : w.cell? ⟨q, 0, none⟩ = some (.int .u64 (m : Nat)) := by obtain ⟨T, h⟩ := h.fq; exact h.cell rfl
theorem BF.c1 (h : BF w B q p b n c m k f) : w.cell? ⟨q, 1, none⟩ = some (.int .u64 (k : Nat)) := by obtain ⟨T, h⟩ := h.fq; exact h.cell rfl
theorem BF.c2 (h : BF w B q p b n c m k f) : w.cell? ⟨q, 2, none⟩ = some (.pointer (some ⟨p, 0, none⟩)) := by obtain ⟨T, h⟩ := h.fq; exact h.cell rfl
theorem BF.qlt (h : BF w B q p b n c m k f) : q < w.heap.size := by obtain ⟨T, h⟩ := h.fq; exact h.lt
theorem BF.below (h : BF w B q p b n c m k f) (ho : Below w.heap.size w w') : BF w' B q p b n c m k f := by
  obtain ⟨T, h1⟩ := h.fq
  exact ⟨⟨T, (ho.block q h1.lt).trans h1⟩, h.rs.below ho, h.qp, h.qb, h.Bq, h.Bp, h.Bb⟩
theorem BF.with (h : BF w B q p b n c m k f) {g : Nat → Nat} (hr : RS w' p b n c g) (ho : Only [b] w w') : BF w' B q p b n c m k g := by
  obtain ⟨T, h1⟩ := h.fq
  exact ⟨⟨T, h1.only ho (by simp; exact h.qb)⟩, hr, h.qp, h.qb, h.Bq, h.Bp, h.Bb⟩
end
set_option maxRecDepth 100000 in
set_option maxHeartbeats 1000000 in
theorem floc_any {w : World} {B q p b n c m k : Nat} {f : Nat → Nat} (hF : BF w B q p b n c m k f) (h : Nat → Int) (i : Nat) (hi : i < 8) (hm : 0 < m) (hm2 : m ≤ 100000) :
    Calls Try.prog 41 #[.pointer (some ⟨q, 0, none⟩), hv h, .int .u64 i] w fun e w' => e = .returned (.int .u64 (place h m i : Nat)) ∧ Below w.heap.size w w' := by
  have HF := Lib.hid hF
  have HL := Lib.hid (loc_any h i hi)
  have d0 := hF.c0
  have hp : (place h m i : Int) = (locI h i) % (m : Int) := by
    have := locI_lo h i
    unfold place
    rw [Int.natCast_emod, Int.toNat_of_nonneg this]
  have HP := Lib.hid hp
  have l0 := locI_lo h i
  have l1 := locI_hi h i
  clear hp
  obtain ⟨x, hx⟩ : ∃ x, x = locI h i := ⟨_, rfl⟩
  rw [← hx] at HL HP l0 l1
  clear hx
  unfold hv at HL ⊢
  have hB0 := Blk.new w #[.int .u64 (h 0), .int .u64 (h 1), .int .u64 (h 2), .int .u64 (h 3)] 69
  have hq := hF.qlt
  go_enter Try.func41, Try.ntmps41
  go_wp2_with fail
  have b0 : Below w.heap.size w (w.alloc (.cells #[.int .u64 (h 0), .int .u64 (h 1), .int .u64 (h 2), .int .u64 (h 3)] 69)) := (Below.refl _ _).alloc (Nat.le_refl _) _
  have hs1 : (w.alloc (.cells #[.int .u64 (h 0), .int .u64 (h 1), .int .u64 (h 2), .int .u64 (h 3)] 69)).heap.size = w.heap.size + 1 := by simp
  generalize (w.alloc (.cells #[.int .u64 (h 0), .int .u64 (h 1), .int .u64 (h 2), .int .u64 (h 3)] 69)) = W at *
  have hc : ∀ W', Below W.heap.size W W' → W'.cell? ⟨q, 0, none⟩ = some (.int .u64 (m : Nat)) ∧ W'.cell? ⟨w.heap.size, 0, none⟩ = some (.int .u64 (h 0)) ∧ W'.cell? ⟨w.heap.size, 1, none⟩ = some (.int .u64 (h 1)) ∧ W'.cell? ⟨w.heap.size, 2, none⟩ = some (.int .u64 (h 2)) ∧ W'.cell? ⟨w.heap.size, 3, none⟩ = some (.int .u64 (h 3)) := fun W' hb =>
    ⟨(hb.cell (by simp; omega)).trans ((b0.cell hq).trans d0), (hb.cell (by simp; omega)).trans (hB0.cell rfl), (hb.cell (by simp; omega)).trans (hB0.cell rfl), (hb.cell (by simp; omega)).trans (hB0.cell rfl), (hb.cell (by simp; omega)).trans (hB0.cell rfl)⟩
  have HC := Lib.hid hc
  have HB0 := Lib.hid b0
  obtain ⟨y0, y1, y2, y3, y4⟩ := hc W (Below.refl _ _)
  clear hc b0 hB0 d0 hs1
  have i1 : (0 : Int) < (m : Int) := by omega
  have i2 : ((m : Int) == 0) = false := by simp; omega
  have i3 : ¬ m = 0 := by omega
  go_region_held3 (fun w' => w'.cell? ⟨q, 0, none⟩ = some (.int .u64 (m : Nat)) ∧ w'.cell? ⟨w.heap.size, 0, none⟩ = some (.int .u64 (h 0)) ∧ w'.cell? ⟨w.heap.size, 1, none⟩ = some (.int .u64 (h 1)) ∧ w'.cell? ⟨w.heap.size, 2, none⟩ = some (.int .u64 (h 2)) ∧ w'.cell? ⟨w.heap.size, 3, none⟩ = some (.int .u64 (h 3)))
    (first | exact ⟨y0, y1, y2, y3, y4⟩ | exact HC.out _ H1.out)
    (first
      | (go_at_call 52; refine (HL.out _).mono ?_; rintro e w1 ⟨rfl, hb⟩; have H1 : Hid (Below W.heap.size W w1) := (Below.refl W.heap.size W).drew.trans hb; clear hb))
  go_wp2_with fail
  go_ret
  exact ⟨retI ((Int.tmod_eq_emod_of_nonneg l0).trans HP.out.symm), HB0.out.trans (H1.out.mono HB0.out.size)⟩
end Go.Proofs.Ytbkodehcjhpcmaa
