/- symBinarySearch, symMerge. -/
import Derived.Test.YtmkbgdgfbmfbdaaDoorM2
namespace Go.Proofs.YtmkbgdgfbmfbdaaDoor.MG
open Go.RowKit

theorem below_drewN {B : Nat} {w w' : World} (h : Below B w w') (n : Nat) : Below B w (w'.drewN n) := ⟨h.os, h.tape, h.output, h.size, h.block⟩
theorem Row.same {B : Nat} {w w' : World} {g n cap : Nat} {L : List Item} (h : Row B w g n cap L) (hb : Below w.heap.size w w') : Row B w' g n cap L := own_same h fun k _ hk => hb.block k hk

set_option maxRecDepth 1000000 in
set_option maxHeartbeats 4000000 in
theorem symBinary_any {w : World} {B g n cap lo hi t : Nat} {L : List Item} (h : Row B w g n cap L) (hn : n ≤ 1000) (hlo : lo ≤ hi) (ht1 : hi ≤ t + 1) (ht2 : lo < hi → t < n + lo) (hhi : hi ≤ n)
    (hmono : ∀ m m', lo ≤ m → m ≤ m' → m' < hi → ky L m' ≤ ky L (t - m') → ky L m ≤ ky L (t - m)) :
    Calls Tryd.prog 42 #[.slice (some ⟨g, 0, none⟩) n cap, .int .i64 lo, .int .i64 hi, .int .i64 t] w fun e_ w' => (∃ s : Nat, e_ = .returned (.int .i64 s) ∧ Found L lo hi t s) ∧ Below w.heap.size w w' := by
  have hlen := h.len
  have HH := Lib.hid h
  have HN := Lib.hid hlen
  have HM := Lib.hid hmono
  have HT := Lib.hid ht2
  clear h hlen hmono ht2
  have hm : ∀ (l1 l2 : Int) (w : World), (method 226 61 (.agg #[.int .i64 l1, .int .i64 l2]) "Compare").run Tryd.prog w = .ok (65, .agg #[.int .i64 l1, .int .i64 l2]) w := fun _ _ _ => by kernel_rfl
  have hm' : ∀ (l1 l2 : Int) (w : World), (method 287 61 (.agg #[.int .i64 l1, .int .i64 l2]) "Compare").run Tryd.prog w = .ok (65, .agg #[.int .i64 l1, .int .i64 l2]) w := fun _ _ _ => by kernel_rfl
  go_enter Tryd.func42, Tryd.ntmps42
  go_wp2_with fail
  go_loopw [1, 2, 9] (fun sv ev _ wr => ∃ (s e : Nat), sv = .int .i64 (s : Nat) ∧ ev = .int .i64 (e : Nat) ∧ lo ≤ s ∧ s ≤ e ∧ e ≤ hi ∧ Hid ((∀ m, lo ≤ m → m < s → ky L m ≤ ky L (t - m)) ∧ (∀ m, e ≤ m → m < hi → ky L (t - m) < ky L m) ∧ Below w.heap.size w wr)) (fun sv ev _ _ => (intOf ev).toNat - (intOf sv).toNat)
  case atStart => exact ⟨lo, hi, rfl, rfl, Nat.le_refl _, hlo, Nat.le_refl _, fun m h1 h2 => by omega, fun m h1 h2 => by omega, Below.refl _ _⟩
  case round =>
    obtain ⟨s, e, rfl, rfl, hs1, hs2, he, hR⟩ := hrel
    have HR : Hid ((∀ m, lo ≤ m → m < s → ky L m ≤ ky L (t - m)) ∧ (∀ m, e ≤ m → m < hi → ky L (t - m) < ky L m) ∧ Below w.heap.size w wr) := hR
    clear hR
    by_cases hlt : s < e
    · have z0 : (s : Int) < (e : Int) := by omega
      obtain ⟨m, hm0⟩ : ∃ m, m = (s + e) / 2 := ⟨_, rfl⟩
      have hms : s ≤ m := by omega
      have hme : m < e := by omega
      obtain ⟨j, hj⟩ : ∃ j, j = t - m := ⟨_, rfl⟩
      have v1 : IntKind.i64.wrap ((s : Int) + (e : Int)) = (s : Int) + (e : Int) := by rw [IntKind.wrap_i64]; omega
      have v2' : Int.tdiv ((s : Int) + (e : Int)) 2 = (m : Int) := by rw [Int.tdiv_eq_ediv_of_nonneg (by omega)]; omega
      have v2'' : ((s : Int) + (e : Int)) / 2 = (m : Int) := by omega
      have v2 : IntKind.i64.wrap (m : Int) = (m : Int) := by rw [IntKind.wrap_i64]; omega
      have htn := HT.out (by omega)
      have v3 : IntKind.i64.wrap ((t : Int) - (m : Int)) = (j : Int) := by rw [IntKind.wrap_i64]; omega
      have hjn : j < n := by omega
      have hmn : m < n := by omega
      have z1 : (m : Int) < (n : Int) := by omega
      have z2 : (j : Int) < (n : Int) := by omega
      have z3 : (0 : Int) ≤ (m : Int) := by omega
      have z4 : (0 : Int) ≤ (j : Int) := by omega
      have HJ := Lib.hid hj
      have HM0 := Lib.hid hm0
      clear hj hm0
      have hrow := HH.out.same HR.out.2.2
      obtain ⟨d1, _⟩ := hrow.at_ hmn
      obtain ⟨d2, _⟩ := hrow.at_ hjn
      obtain ⟨x1, x2, hx⟩ : ∃ x1 x2, (x1, x2) = gt_ L m := ⟨_, _, rfl⟩
      obtain ⟨y1, y2, hy⟩ : ∃ y1 y2, (y1, y2) = gt_ L j := ⟨_, _, rfl⟩
      rw [← hx] at d1
      rw [← hy] at d2
      have c1 : wr.cell? ⟨g, m, none⟩ = some (.iface 61 (.agg #[.int .i64 x1, .int .i64 x2])) := d1
      have c2 : wr.cell? ⟨g, j, none⟩ = some (.iface 61 (.agg #[.int .i64 y1, .int .i64 y2])) := d2
      have HXY : Hid (ky L m = x1 ∧ ky L (t - m) = y1) := ⟨by unfold ky; rw [← hx], by rw [← HJ.out]; unfold ky; rw [← hy]⟩
      clear d1 d2 hx hy hrow
      have hcmp0 := fun w => compare_any (x1, x2) (y1, y2) w
      have hle := ord_le x1 y1
      obtain ⟨r, hr⟩ : ∃ r, r = ord x1 y1 := ⟨_, rfl⟩
      have hcmp : Hid (∀ w, Calls Tryd.prog 65 #[.agg #[.int .i64 x1, .int .i64 x2], .iface 61 (.agg #[.int .i64 y1, .int .i64 y2])] w fun e w' => e = .returned (.int .i64 r) ∧ Below w.heap.size w w') := by
        intro w
        rw [hr]
        exact hcmp0 w
      rw [← hr] at hle
      have HLE := Lib.hid hle
      clear hcmp0 hle hr
      go_wp2_with fail
      go_region_held3 (fun w' => w'.cell? ⟨g, m, none⟩ = some (.iface 61 (.agg #[.int .i64 x1, .int .i64 x2])) ∧ w'.cell? ⟨g, j, none⟩ = some (.iface 61 (.agg #[.int .i64 y1, .int .i64 y2])))
        (first | exact ⟨c1, c2⟩ | exact ⟨(G5.out.cell (cell_lt' c1)).trans c1, (G5.out.cell (cell_lt' c2)).trans c2⟩)
        (first | (go_at_call 65; refine (hcmp.out _).mono ?_; rintro e w5 ⟨rfl, hb5⟩; have G5 : Hid (Below wr.heap.size wr w5) := Lib.hid (by first | exact (Below.refl _ _).drew.trans hb5 | exact (below_drewN (Below.refl _ _) _).trans hb5); clear hb5))
      have HB5 : Hid (Below w.heap.size w w5) := HR.out.2.2.trans (G5.out.mono HR.out.2.2.size)
      clear G5 c1 c2
      by_cases hxy : x1 ≤ y1
      · have hr0 : r ≤ 0 := by have h := HLE.out; rw [decide_eq_true hxy] at h; simpa using h
        have HE : Hid ((∀ k, lo ≤ k → k < m + 1 → ky L k ≤ ky L (t - k)) ∧ (∀ m, e ≤ m → m < hi → ky L (t - m) < ky L m) ∧ Below w.heap.size w w5) := by
          refine ⟨fun k h1 h2 => HM.out k m h1 (by omega) (by omega) ?_, HR.out.2.1, HB5.out⟩
          rw [HXY.out.1, HXY.out.2]; exact hxy
        clear HLE
        go_wp2_with fail
        go_roundw
        case rel => exact ⟨m + 1, e, by go_num, rfl, by omega, by omega, he, HE.out⟩
        case measure => simp [intOf]; omega
      · have hr0 : ¬ r ≤ 0 := by have h := HLE.out; rw [decide_eq_false hxy] at h; simpa using h
        have HE : Hid ((∀ k, lo ≤ k → k < s → ky L k ≤ ky L (t - k)) ∧ (∀ k, m ≤ k → k < hi → ky L (t - k) < ky L k) ∧ Below w.heap.size w w5) := by
          refine ⟨HR.out.1, fun k h1 h2 => ?_, HB5.out⟩
          rcases Nat.lt_or_ge (ky L (t - k) - ky L k).toNat 0 with h | h
          · omega
          · by_cases hk : ky L k ≤ ky L (t - k)
            · exact absurd (HM.out m k (by omega) h1 h2 hk) (by rw [HXY.out.1, HXY.out.2]; exact hxy)
            · omega
        clear HLE
        go_wp2_with fail
        go_roundw
        case rel => exact ⟨s, m, rfl, by go_num, hs1, by omega, by omega, HE.out⟩
        case measure => simp [intOf]; omega
    · have z0 : ¬ (s : Int) < (e : Int) := by omega
      obtain rfl : s = e := by omega
      go_wp2_with fail
      go_ret
      exact ⟨⟨s, rfl, hs1, he, HR.out.1, HR.out.2.1⟩, HR.out.2.2⟩
end Go.Proofs.YtmkbgdgfbmfbdaaDoor.MG
